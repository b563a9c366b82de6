/- The masks of a block of 64 bytes: what scanBlockWords puts into its struct. -/
import Derived.Test.YtfkagnpdapkaaaaDoorMaskA
namespace Go.Proofs.YtfkagnpdapkaaaaDoor.Err
open Go.RowKit Go.Proofs.YtfkagnpdapkaaaaDoorW.PrintWords Go.Proofs.YtfkagnpdapkaaaaDoorW.PrintLast Go.Proofs.YtfkagnpdapkaaaaDoorW.PrintMore Go.Proofs.YtfkagnpdapkaaaaDoor.QF
open Go.Proofs.YtfkagnpdapkaaaaDoor.Dig Go.Proofs.YtfkagnpdapkaaaaDoor.Tab Go.Proofs.YtfkagnpdapkaaaaDoor.Swar Go.Proofs.YtfkagnpdapkaaaaDoor.Key
set_option linter.unusedVariables false
def pQ (b : Nat) : Bool := b == 34
def pB (b : Nat) : Bool := b == 92
def pO (b : Nat) : Bool := (b &&& 223) == 91
def pC (b : Nat) : Bool := (b &&& 223) == 93
/-- The bits of the first n bytes that pass a test. -/
def upto (l : List Int) (p : Nat → Bool) (n : Nat) : Nat := bitsOf ((nb l n 0).map p)
theorem nb_add (l : List Int) : ∀ m n i, nb l (m + n) i = nb l m i ++ nb l n (i + m) := by
  intro m
  induction m with
  | zero => intro n i; simp [nb]
  | succ m ih =>
    intro n i
    rw [show m + 1 + n = (m + n) + 1 by omega]
    simp only [nb, ih, List.cons_append]
    rw [show i + 1 + m = i + (m + 1) by omega]
theorem upto_step (l : List Int) (p : Nat → Bool) (k : Nat) (hk : k < 8) :
    Go.bits .or .u64 ((upto l p (8 * k) : Nat) : Int) (shl .u64 ((bitsOf ((nb l 8 (8 * k)).map p) : Nat) : Int) (8 * (k : Int))) = ((upto l p (8 * (k + 1)) : Nat) : Int) := by
  unfold upto
  rw [bits_step _ _ k hk (by rw [List.length_map, nb_length]) (by rw [List.length_map, nb_length]), ← List.map_append, Nat.mul_add, Nat.mul_one, nb_add, Nat.zero_add]
theorem four' {w : World} {b : Nat} {v0 v1 v2 v3 : Value} {t : TypeId} (h : w.heap[b]? = some (.cells #[v0, v1, v2, v3] t (0, 0))) :
    w.cell? ⟨b, 0, none⟩ = some v0 ∧ w.cell? ⟨b, 1, none⟩ = some v1 ∧ w.cell? ⟨b, 2, none⟩ = some v2 ∧ w.cell? ⟨b, 3, none⟩ = some v3 ∧
    w.frozen? ⟨b, 0, none⟩ = false ∧ w.frozen? ⟨b, 1, none⟩ = false ∧ w.frozen? ⟨b, 2, none⟩ = false ∧ w.frozen? ⟨b, 3, none⟩ = false := by
  refine ⟨?_, ?_, ?_, ?_, ?_, ?_, ?_, ?_⟩ <;> simp [World.cell?, World.frozen?, h]
/-- One call of byteMask and one of gatherMask, told with a number. -/
abbrev MaskC (w c m : Int) : Prop := ∀ W, Calls Tryd.prog 103 #[.int .u64 w, .int .u64 c] W fun e w' => e = .returned (.int .u64 m) ∧ Drawn0 W w'
abbrev GathC (m g : Int) : Prop := ∀ W, Calls Tryd.prog 102 #[.int .u64 m] W fun e w' => e = .returned (.int .u64 g) ∧ Drawn0 W w'
theorem and_bs {l : List Nat} (h : Bs l) : Bs (l.map (· &&& 223)) := fun x hx => by
  obtain ⟨b, hb, rfl⟩ := List.mem_map.1 hx
  exact Nat.lt_of_le_of_lt Nat.and_le_left (h b hb)
theorem word_round (l : List Int) (hb : Bytes l) (h64 : 64 ≤ l.length) (i : Nat) (hi : i < 8) : ∃ W0 F0 M1 M2 M3 M4 B1 B2 B3 B4 : Int, gojson_le64.f (l.drop (8 * i)) = some W0 ∧ Go.bits .andNot .u64 W0 2314885530818453536 = F0 ∧
    MaskC W0 34 M1 ∧ GathC M1 B1 ∧ MaskC W0 92 M2 ∧ GathC M2 B2 ∧ MaskC F0 91 M3 ∧ GathC M3 B3 ∧ MaskC F0 93 M4 ∧ GathC M4 B4 ∧
    Go.bits .or .u64 ((upto l pQ (8 * i) : Nat) : Int) (shl .u64 B1 (8 * (i : Int))) = ((upto l pQ (8 * (i + 1)) : Nat) : Int) ∧ Go.bits .or .u64 ((upto l pB (8 * i) : Nat) : Int) (shl .u64 B2 (8 * (i : Int))) = ((upto l pB (8 * (i + 1)) : Nat) : Int) ∧
    Go.bits .or .u64 ((upto l pO (8 * i) : Nat) : Int) (shl .u64 B3 (8 * (i : Int))) = ((upto l pO (8 * (i + 1)) : Nat) : Int) ∧ Go.bits .or .u64 ((upto l pC (8 * i) : Nat) : Int) (shl .u64 B4 (8 * (i : Int))) = ((upto l pC (8 * (i + 1)) : Nat) : Int) := by
  have hl := nb_length l 8 (8 * i)
  have hs := nb_bs l hb 8 (8 * i)
  have hl2 : ((nb l 8 (8 * i)).map (· &&& 223)).length = 8 := by rw [List.length_map, hl]
  have hs2 := and_bs hs
  refine ⟨_, _, _, _, _, _, _, _, _, _, le64_f l hb (8 * i) (by omega), fold_word _ hl hs, fun W => Key.byteMask _ hl hs 34 (by decide) W, fun W => Key.gather _ _ hl W, fun W => Key.byteMask _ hl hs 92 (by decide) W, fun W => Key.gather _ _ hl W,
    fun W => Key.byteMask _ hl2 hs2 91 (by decide) W, fun W => Key.gather _ _ hl2 W, fun W => Key.byteMask _ hl2 hs2 93 (by decide) W, fun W => Key.gather _ _ hl2 W, upto_step l pQ i hi, upto_step l pB i hi, ?_, ?_⟩
  · rw [List.map_map]
    exact upto_step l pO i hi
  · rw [List.map_map]
    exact upto_step l pC i hi
set_option maxRecDepth 100000 in
set_option maxHeartbeats 8000000 in
theorem blockWords (A : Option Addr) (c : Nat) (l : List Int) (b : Nat) (v0 v1 v2 v3 : Value) (w : World) (hC : Kd.C (Kd.int .u8) w A l.length l) (hcap : l.length ≤ c) (hb : Bytes l) (h64 : 64 ≤ l.length)
    (hblk : w.heap[b]? = some (.cells #[v0, v1, v2, v3] 95 (0, 0))) :
    Calls Tryd.prog 81 #[.slice A l.length c, .pointer (some ⟨b, 0, none⟩)] w fun e w' => e = .returned (.tuple #[]) ∧ w'.heap[b]? = some (.cells #[.int .u64 (upto l pQ 64 : Nat), .int .u64 (upto l pB 64 : Nat), .int .u64 (upto l pO 64 : Nat), .int .u64 (upto l pC 64 : Nat)] 95 (0, 0)) ∧ ∀ n, n ≤ b → Below n w w' := by
  have HC := Aside0.mk hC
  have HCAP := Aside0.mk hcap
  have HB := Aside0.mk hb
  have HK := Aside0.mk hblk
  clear hC hcap hb hblk
  go_enter Tryd.func81, Tryd.ntmps81
  go_wp2_with fail
  go_loopg [4, 5, 6, 7, 8] 8 (fun kq v4 v5 v6 v7 v8 w' => ∃ (m4 m5 m6 m7 y : Int), v4 = .int .u64 m4 ∧ v5 = .int .u64 m5 ∧ v6 = .int .u64 m6 ∧ v7 = .int .u64 m7 ∧ v8 = .int .i64 y ∧
    Aside0 (∃ i : Nat, i + kq = 8 ∧ y = i ∧ m4 = upto l pQ (8 * i) ∧ m5 = upto l pB (8 * i) ∧ m6 = upto l pO (8 * i) ∧ m7 = upto l pC (8 * i)) ∧ Drawn0 w w')
  case atStart => exact ⟨0, 0, 0, 0, 0, rfl, rfl, rfl, rfl, rfl, ⟨0, rfl, rfl, rfl, rfl, rfl, rfl⟩, Drawn0.refl _⟩
  case round =>
    obtain ⟨m4, m5, m6, m7, y, rfl, rfl, rfl, rfl, rfl, HA, ⟨nd0, rfl⟩⟩ := hrel
    by_cases hy : y < 8
    · have hy0 : 0 ≤ y := by obtain ⟨i, h1, h2, _⟩ := HA.out; omega
      obtain ⟨i06, hi06, _, hsz6, _⟩ := info_parts (P := Tryd.prog) QF.info5
      have hz : IntKind.i64.wrap (y * 8) = y * 8 := IntWalk.i64_in _ (by omega)
      obtain ⟨A6, hcut6, hA6, hC6⟩ := print_drop_of (P := Tryd.prog) (Value.int .u8) 0 22 5 .i64 Tryd.underlying22 hi06 hsz6 A c l (y * 8) (by omega) (by omega) HCAP.out
      have HR := Aside0.mk (Kd.C_of_reads (h1 := fun _ => rfl) (hA6 _ (Kd.reads_of_C HC.out)))
      obtain _ | g0 := gk
      · exfalso; obtain ⟨i, h1, h2, _⟩ := HA.out; omega
      obtain ⟨W0, F0, M1, M2, M3, M4, B1, B2, B3, B4, n1, n2, n3, n4, n5, z1, z2, z3, z4, z5, z6, z7, z8, s1, s2, s3, s4⟩ : ∃ W0 F0 M1 M2 M3 M4 B1 B2 B3 B4 n1 n2 n3 n4 n5 : Int, gojson_le64.f (l.drop (y * 8).toNat) = some W0 ∧ Go.bits .andNot .u64 W0 2314885530818453536 = F0 ∧
          Aside0 (MaskC W0 34 M1 ∧ GathC M1 B1) ∧ Aside0 (MaskC W0 92 M2 ∧ GathC M2 B2) ∧ Aside0 (MaskC F0 91 M3 ∧ GathC M3 B3) ∧ Aside0 (MaskC F0 93 M4 ∧ GathC M4 B4) ∧ IntKind.u64.wrap (y * 8) = y * 8 ∧
          Aside0 (∃ i : Nat, i + g0 = 8 ∧ y + 1 = i ∧ n1 = upto l pQ (8 * i) ∧ n2 = upto l pB (8 * i) ∧ n3 = upto l pO (8 * i) ∧ n4 = upto l pC (8 * i)) ∧
          Go.bits .or .u64 m4 (IntKind.u64.wrap (B1 * 2 ^ (y * 8).toNat)) = n1 ∧ Go.bits .or .u64 m5 (IntKind.u64.wrap (B2 * 2 ^ (y * 8).toNat)) = n2 ∧ Go.bits .or .u64 m6 (IntKind.u64.wrap (B3 * 2 ^ (y * 8).toNat)) = n3 ∧ Go.bits .or .u64 m7 (IntKind.u64.wrap (B4 * 2 ^ (y * 8).toNat)) = n4 := by
        obtain ⟨i, h1, rfl, rfl, rfl, rfl, rfl⟩ := HA.out
        obtain ⟨W0, F0, M1, M2, M3, M4, B1, B2, B3, B4, e1, e2, e3, e4, e5, e6, e7, e8, e9, e10, e11, e12, e13, e14⟩ := word_round l HB.out h64 i (by omega)
        have e0 : ((i : Int) * 8).toNat = 8 * i := by omega
        have e15 : (i : Int) * 8 = 8 * (i : Int) := by omega
        have e16 : ∀ x : Int, shl .u64 x (8 * (i : Int)) = IntKind.u64.wrap (x * 2 ^ (8 * i)) := fun x => by
          have : min (8 * (i : Int)).toNat IntKind.u64.bits = 8 * i := by simp [IntKind.bits]; omega
          unfold shl
          rw [this]
        rw [e16] at e11 e12 e13 e14
        rw [e0, e15]
        exact ⟨W0, F0, M1, M2, M3, M4, B1, B2, B3, B4, _, _, _, _, 0, e1, e2, ⟨e3, e4⟩, ⟨e5, e6⟩, ⟨e7, e8⟩, ⟨e9, e10⟩, by rw [IntKind.wrap_u64]; omega, ⟨i + 1, by omega, by omega, rfl, rfl, rfl, rfl⟩, e11, e12, e13, e14⟩
      have HLE : Aside0 (∀ m, Calls Tryd.prog 101 #[.slice A6 (l.length - (y * 8).toNat) (c - (y * 8).toNat)] (w.drewN m) fun e w' => e = .returned (.int .u64 W0) ∧ Drawn0 (w.drewN m) w') := ⟨fun m => by
        have := gojson_le64.calls A6 (c - (y * 8).toNat) (l.drop (y * 8).toNat) W0 (w.drewN m) (Kd.C_drewN HR.out m) hC6 z1
        rwa [List.length_drop] at this⟩
      clear z1 HR hC6 hA6 HA
      have hy1 : wrap64 (y + 1) = y + 1 := by unfold wrap64; omega
      go_wp2_with fail
      with_reducible refine (HLE.out _).mono ?_
      rintro e w1 ⟨rfl, ⟨k1, rfl⟩⟩
      go_wp2_with fail
      with_reducible refine (z3.out.1 _).mono ?_
      rintro e w1 ⟨rfl, ⟨k31, rfl⟩⟩
      go_wp2_with fail
      with_reducible refine (z3.out.2 _).mono ?_
      rintro e w1 ⟨rfl, ⟨k32, rfl⟩⟩
      go_wp2_with fail
      with_reducible refine (z4.out.1 _).mono ?_
      rintro e w1 ⟨rfl, ⟨k41, rfl⟩⟩
      go_wp2_with fail
      with_reducible refine (z4.out.2 _).mono ?_
      rintro e w1 ⟨rfl, ⟨k42, rfl⟩⟩
      go_wp2_with fail
      with_reducible refine (z5.out.1 _).mono ?_
      rintro e w1 ⟨rfl, ⟨k51, rfl⟩⟩
      go_wp2_with fail
      with_reducible refine (z5.out.2 _).mono ?_
      rintro e w1 ⟨rfl, ⟨k52, rfl⟩⟩
      go_wp2_with fail
      with_reducible refine (z6.out.1 _).mono ?_
      rintro e w1 ⟨rfl, ⟨k61, rfl⟩⟩
      go_wp2_with fail
      with_reducible refine (z6.out.2 _).mono ?_
      rintro e w1 ⟨rfl, ⟨k62, rfl⟩⟩
      go_wp2_with fail
      go_roundg g0
      case measure => omega
      case rel => exact ⟨n1, n2, n3, n4, y + 1, rfl, rfl, rfl, rfl, rfl, ⟨z8.out⟩, by repeat (first | exact Drawn0.refl _ | apply Drawn0.step)⟩
    · have hy2 : y = 8 := by obtain ⟨i, h1, h2, _⟩ := HA.out; omega
      have HM : Aside0 (m4 = upto l pQ 64 ∧ m5 = upto l pB 64 ∧ m6 = upto l pO 64 ∧ m7 = upto l pC 64) := ⟨by
        obtain ⟨i, h1, h2, h3⟩ := HA.out
        have : 8 * i = 64 := by omega
        rw [this] at h3
        exact h3⟩
      subst hy2
      clear HA hy
      obtain ⟨p0, p1, p2, p3, q0, q1, q2, q3⟩ := four' HK.out
      go_wp2_with fail
      go_end0
      have h0 : (w.drewN nd0).heap[b]? = some (.cells #[v0, v1, v2, v3] 95 (0, 0)) := HK.out
      have h1 := heap_setCell_same _ b 0 _ 95 (.int .u64 m4) h0
      have h2 := heap_setCell_same _ b 1 _ 95 (.int .u64 m5) h1
      have h3 := heap_setCell_same _ b 2 _ 95 (.int .u64 m6) h2
      have h4 := heap_setCell_same _ b 3 _ 95 (.int .u64 m7) h3
      obtain ⟨e1, e2, e3, e4⟩ := HM.out
      refine ⟨rfl, ?_, fun n hn => (((((pw_below_drewN (Below.refl _ _) nd0)).setCell hn _).setCell hn _).setCell hn _).setCell hn _⟩
      rw [← e1, ← e2, ← e3, ← e4]
      simpa using h4
end Go.Proofs.YtfkagnpdapkaaaaDoor.Err
