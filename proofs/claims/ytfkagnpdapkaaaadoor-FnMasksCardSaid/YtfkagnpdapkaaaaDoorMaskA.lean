/- The places of a byte among 64 as bits: masks of words, what they are; plain lemmas over numbers, and the functions that make them. -/
import Derived.Test.YtfkagnpdapkaaaaDoorScC
import Derived.Test.YtfkagnpdapkaaaaDoorQK1
namespace Go.Proofs.YtfkagnpdapkaaaaDoor.Key
open Go.RowKit Go.Proofs.YtfkagnpdapkaaaaDoor.QK Go.Proofs.YtfkagnpdapkaaaaDoorW.PrintWords Go.Proofs.YtfkagnpdapkaaaaDoorW.PrintLast Go.Proofs.YtfkagnpdapkaaaaDoorW.PrintMore Go.Proofs.YtfkagnpdapkaaaaDoor.Swar Go.Proofs.YtfkagnpdapkaaaaDoor.Dig Go.Proofs.YtfkagnpdapkaaaaDoor.Tab Go.Proofs.YtfkagnpdapkaaaaDoor.Err
set_option linter.unusedVariables false
/-- The bits of a list of tests, the first one the lowest. -/
def bitsOf : List Bool → Nat
  | [] => 0
  | b :: r => b.toNat + 2 * bitsOf r
theorem bitsOf_append (a c : List Bool) : bitsOf (a ++ c) = bitsOf a + 2 ^ a.length * bitsOf c := by
  induction a with
  | nil => simp [bitsOf]
  | cons b r ih => simp only [List.cons_append, bitsOf, List.length_cons, Nat.pow_succ, ih]; grind
theorem bitsOf_lt (l : List Bool) : bitsOf l < 2 ^ l.length := by
  induction l with
  | nil => simp [bitsOf]
  | cons b r ih =>
    have : b.toNat ≤ 1 := Bool.toNat_le b
    simp only [bitsOf, List.length_cons, Nat.pow_succ]
    omega
/-- A byte's part of a mask. -/
def lane (p : Nat → Bool) (b : Nat) : Nat := 128 * (p b).toNat
theorem lane_bf (p : Nat → Bool) : Bf (lane p) := fun b _ => by
  have : (p b).toNat ≤ 1 := Bool.toNat_le _
  unfold lane
  omega
theorem gather_bool : ∀ b0 b1 b2 b3 b4 b5 b6 b7 : Bool, hw [128 * b0.toNat, 128 * b1.toNat, 128 * b2.toNat, 128 * b3.toNat, 128 * b4.toNat, 128 * b5.toNat, 128 * b6.toNat, 128 * b7.toNat] / 128 * 72624976668147840 % 18446744073709551616 / 72057594037927936 = bitsOf [b0, b1, b2, b3, b4, b5, b6, b7] := by decide +kernel
theorem gather_lane (p : Nat → Bool) (l : List Nat) (hl : l.length = 8) : gojson_gatherMask.f ((hw (l.map (lane p)) : Nat) : Int) = some ((bitsOf (l.map p) : Nat) : Int) := by
  match l, hl with
  | [b0, b1, b2, b3, b4, b5, b6, b7], _ =>
    have h := gather_bool (p b0) (p b1) (p b2) (p b3) (p b4) (p b5) (p b6) (p b7)
    simp only [List.map]
    rw [← h]
    unfold gojson_gatherMask.f lane
    rw [IntKind.wrap_u64]
    simp
theorem lane_fin : ∀ b : Fin 256, ∀ c, c = 34 ∨ c = 92 ∨ c = 91 ∨ c = 93 → (255 ^^^ (((b.1 ^^^ c) &&& 127) + 127 ||| (b.1 ^^^ c))) &&& 128 = 128 * (b.1 == c).toNat := by
  intro b c hc
  rcases hc with rfl | rfl | rfl | rfl
  · revert b; decide +kernel
  · revert b; decide +kernel
  · revert b; decide +kernel
  · revert b; decide +kernel
theorem lane_word (l : List Nat) (hl : l.length = 8) (h : Bs l) (c : Nat) (hc : c = 34 ∨ c = 92 ∨ c = 91 ∨ c = 93) :
    Go.bits .and .u64 (Go.bits .xor .u64 IntKind.u64.max (Go.bits .or .u64 (IntKind.u64.wrap (Go.bits .and .u64 (Go.bits .xor .u64 ((hw l : Nat) : Int) (IntKind.u64.wrap ((c : Int) * 72340172838076673))) 9187201950435737471 + 9187201950435737471)) (Go.bits .xor .u64 ((hw l : Nat) : Int) (IntKind.u64.wrap ((c : Int) * 72340172838076673))))) 9259542123273814144
      = ((hw (l.map (lane (· == c))) : Nat) : Int) := by
  have hc8 : c < 128 := by omega
  have bid : Bf fun b => b := fun b hb => hb
  have bc (n : Nat) (hn : n < 256) : Bf fun _ => n := fun _ _ => hn
  have bx : Bf fun b => b ^^^ c := fun b hb => Nat.xor_lt_two_pow (n := 8) hb (by omega)
  have ba : Bf fun b => (b ^^^ c) &&& 127 := fun b hb => Nat.lt_of_le_of_lt Nat.and_le_right (by decide)
  have bp : Bf fun b => ((b ^^^ c) &&& 127) + 127 := fun b hb => by have : (b ^^^ c) &&& 127 ≤ 127 := Nat.and_le_right; show ((b ^^^ c) &&& 127) + 127 < 256; omega
  have bo : Bf fun b => ((b ^^^ c) &&& 127) + 127 ||| (b ^^^ c) := fun b hb => Nat.or_lt_two_pow (n := 8) (bp b hb) (bx b hb)
  have bn : Bf fun b => 255 ^^^ (((b ^^^ c) &&& 127) + 127 ||| (b ^^^ c)) := fun b hb => Nat.xor_lt_two_pow (n := 8) (by decide) (bo b hb)
  have e0 : hw l = hw (l.map fun b => b) := by rw [List.map_id' l]
  have e1 : IntKind.u64.wrap ((c : Int) * 72340172838076673) = ((hw (l.map fun _ => c) : Nat) : Int) := by
    rw [w_const l hl, IntKind.wrap_u64]
    simp only [List.replicate, hw]
    omega
  have e2 : (9187201950435737471 : Int) = ((hw (l.map fun _ => 127) : Nat) : Int) := by rw [w_const l hl]; decide
  have e3 : (9259542123273814144 : Int) = ((hw (l.map fun _ => 128) : Nat) : Int) := by rw [w_const l hl]; decide
  have e4 : IntKind.u64.max = ((hw (l.map fun _ => 255) : Nat) : Int) := by rw [w_const l hl]; decide
  rw [e0, e1, w_xor l hl h _ _ bid (bc c (by omega)), e2, w_and l hl h _ _ bx (bc 127 (by decide)), w_add l hl h _ _ bp, w_or l hl h _ _ bp bx, e4, w_xor l hl h _ _ (bc 255 (by decide)) bo, e3, w_and l hl h _ _ bn (bc 128 (by decide))]
  congr 1
  refine hw_map_congr l _ _ (fun b hb => ?_) h
  have := lane_fin ⟨b, hb⟩ c hc
  unfold lane
  exact this
set_option maxHeartbeats 4000000 in
theorem byteMask (l : List Nat) (hl : l.length = 8) (h : Bs l) (c : Nat) (hc : c = 34 ∨ c = 92 ∨ c = 91 ∨ c = 93) (W : World) : Calls Tryd.prog 103 #[.int .u64 ((hw l : Nat) : Int), .int .u64 (c : Int)] W fun e w' => e = .returned (.int .u64 ((hw (l.map (lane (· == c))) : Nat) : Int)) ∧ Drawn0 W w' := by
  have HR := Aside0.mk (lane_word l hl h c hc)
  generalize hw (l.map (lane (· == c))) = R at *
  clear h hc hl
  have hs : IntKind.u64.signed = false := rfl
  generalize hw l = w at *
  go_enter Tryd.func103, Tryd.ntmps103
  go_wp2
  go_ret
  exact ⟨by rw [HR.out]; rfl, Drawn0.refl _⟩
set_option maxHeartbeats 4000000 in
theorem gather (p : Nat → Bool) (l : List Nat) (hl : l.length = 8) (W : World) : Calls Tryd.prog 102 #[.int .u64 ((hw (l.map (lane p)) : Nat) : Int)] W fun e w' => e = .returned (.int .u64 ((bitsOf (l.map p) : Nat) : Int)) ∧ Drawn0 W w' :=
  gojson_gatherMask.calls _ _ W (gather_lane p l hl)
/-- The byte without its sixth bit. -/
theorem fold_word (l : List Nat) (hl : l.length = 8) (h : Bs l) : Go.bits .andNot .u64 ((hw l : Nat) : Int) 2314885530818453536 = ((hw (l.map (· &&& 223)) : Nat) : Int) := by
  have e0 : hw l = hw (l.map fun b => b) := by rw [List.map_id' l]
  have e3 : (2314885530818453536 : Int) = ((hw (l.map fun _ => 32) : Nat) : Int) := by rw [w_const l hl]; decide
  rw [e0, e3, w_andNot l hl h _ _ (fun b hb => hb) (fun _ _ => by decide)]
/-- What a block's word adds to the bits of those ahead of it. -/
theorem bits_step (a b : List Bool) (k : Nat) (hk : k < 8) (ha : a.length = 8 * k) (hb : b.length = 8) :
    Go.bits .or .u64 ((bitsOf a : Nat) : Int) (shl .u64 ((bitsOf b : Nat) : Int) (8 * (k : Int))) = ((bitsOf (a ++ b) : Nat) : Int) := by
  have h1 := bitsOf_lt a
  have h2 := bitsOf_lt b
  have h3 : (2 : Nat) ^ (8 * k) = 256 ^ k := by rw [Nat.pow_mul]
  have hp : 256 ^ k ≤ 72057594037927936 := Nat.le_trans (Nat.pow_le_pow_right (by decide) (show k ≤ 7 by omega)) (by decide)
  rw [ha, h3] at h1
  rw [hb] at h2
  have hm : bitsOf b * 256 ^ k ≤ 255 * 72057594037927936 := Nat.mul_le_mul (by omega) hp
  have e1 : min (8 * (k : Int)).toNat IntKind.u64.bits = 8 * k := by simp [IntKind.bits]; omega
  have es : shl .u64 ((bitsOf b : Nat) : Int) (8 * (k : Int)) = ((bitsOf b * 256 ^ k : Nat) : Int) := by
    unfold shl
    rw [e1, IntKind.wrap_u64]
    have : ((2 : Int) ^ (8 * k)) = ((256 ^ k : Nat) : Int) := by rw [← h3]; simp
    rw [this]
    omega
  rw [es, or_place _ _ k hk h1 h2, bitsOf_append, ha, h3]
end Go.Proofs.YtfkagnpdapkaaaaDoor.Key
