/- math/bits.TrailingZeros64 answers the number of noughts at a word's lower end, for every word, where its table holds what Go lays; and what the tables' fact does in later worlds. -/
import Derived.Test.YtbikiibpjdiaaaaDoorGate
import Derived.Test.YtbikiibpjdiaaaaDoorProg
import Derived.Lib.TrailingZeros
import Derived.Lib.LaidTab
import Derived.Below
import Derived.WalkKit
import Derived.KernelRfl
import Derived.Laws.Bits64
import Derived.Laws.BitsLemmas
namespace Go.Proofs.YtbikiibpjdiaaaaDoor.Tab
open Go.RowKit Go.Proofs.YtbikiibpjdiaaaaDoorW.PrintWords Go.Proofs.YtbikiibpjdiaaaaDoorW.PrintLast Go.Proofs.YtbikiibpjdiaaaaDoorW.PrintMore

/-- What package-level tables hold. -/
structure Glob (w : World) : Prop where
 tab : ∀ i, i < 64 → w.cell? ⟨0, i, none⟩ = some (.int .u8 ((Lib.deBruijn64tab.getD i 0 : Nat) : Int))
theorem Glob.below {w w' : World} (h : Glob w) (hb : Below w.heap.size w w') : Glob w' := ⟨fun i hi => pw_cell_below hb (h.tab i hi)⟩
theorem Glob.drawn {w w' : World} (h : Glob w) (hd : Drawn0 w w') : Glob w' := h.below hd.below

theorem bits_and_u64n (a b : Nat) (ha : a < 18446744073709551616) (hb : b < 18446744073709551616) : bits .and .u64 (a : Int) (b : Int) = ((a &&& b : Nat) : Int) := by
 have hx : a &&& b < 2 ^ 64 := Nat.and_lt_two_pow _ (by omega)
 have h1 : (BitVec.ofInt 64 (a : Int)).toNat = a := by
  rw [BitVec.ofInt_natCast, BitVec.toNat_ofNat]; exact Nat.mod_eq_of_lt (by omega)
 have h2 : (BitVec.ofInt 64 (b : Int)).toNat = b := by
  rw [BitVec.ofInt_natCast, BitVec.toNat_ofNat]; exact Nat.mod_eq_of_lt (by omega)
 show IntKind.u64.wrap ((BitVec.ofInt 64 (a : Int) &&& BitVec.ofInt 64 (b : Int)).toNat : Int) = _
 rw [BitVec.toNat_and, h1, h2, IntKind.wrap_u64]
 omega
theorem tz_key (x a : Nat) (hx : x < 18446744073709551616) (hx0 : x ≠ 0) (hlow : x &&& (18446744073709551616 - x) = a) :
  IntKind.u64.wrap (bits BinOp.and IntKind.u64 (x : Int) (IntKind.u64.wrap (-(x : Int))) * 285870213051353865) / 288230376151711744 = ((a * 285870213051353865 % 18446744073709551616 / 288230376151711744 : Nat) : Int) := by
 have e1 : IntKind.u64.wrap (-(x : Int)) = ((18446744073709551616 - x : Nat) : Int) := by rw [IntKind.wrap_u64]; omega
 rw [e1, bits_and_u64n x _ hx (by omega), hlow, IntKind.wrap_u64]
 omega
set_option maxHeartbeats 400000 in
theorem tz_core (x k idx : Nat) (w : World) (hx0 : ((x : Int) == 0) = false)
  (key : IntKind.u64.wrap (bits BinOp.and IntKind.u64 (x : Int) (IntKind.u64.wrap (-(x : Int))) * 285870213051353865) / 288230376151711744 = (idx : Int))
  (hi : idx < 64) (hcell : w.cell? ⟨0, idx, none⟩ = some (.int .u8 k)) (hk : k < 64) :
  Calls Tryd.prog 70 #[.int .u64 x] w fun e w' => e = .returned (.int .i64 k) ∧ Drawn0 w w' := by
 go_enter Tryd.func70, Tryd.ntmps70
 go_wp2_with (simp only [key])
 go_ret
 exact ⟨rfl, Drawn0.refl _⟩
set_option maxHeartbeats 400000 in
theorem tz_zero (w : World) : Calls Tryd.prog 70 #[.int .u64 0] w fun e w' => e = .returned (.int .i64 64) ∧ Drawn0 w w' := by
 go_enter Tryd.func70, Tryd.ntmps70
 go_wp2
 go_ret
 exact ⟨rfl, Drawn0.refl _⟩
def tz64.f (a0 : Int) : Option Int := if 0 ≤ a0 ∧ a0 < 18446744073709551616 then some ((Lib.ctz 64 a0.toNat : Nat) : Int) else none
theorem tz64.calls (a0 r : Int) (w : World) (hG : Glob w) (h : tz64.f a0 = some r) : Calls Tryd.prog 70 #[.int .u64 a0] w fun e w' => e = .returned (.int .i64 r) ∧ Drawn0 w w' := by
 unfold tz64.f at h
 split at h
 ·rename_i hr
  obtain rfl := Option.some.inj h
  obtain ⟨x, rfl⟩ := Int.eq_ofNat_of_zero_le hr.1
  by_cases hx0 : x = 0
  ·subst hx0
   exact tz_zero w
  ·obtain ⟨hlow, hk⟩ := Lib.lowest_bit 64 x hx0 (by omega)
   obtain ⟨hi, htab⟩ := Lib.deBruijn64_at _ hk
   have hcell := hG.tab _ hi
   rw [htab] at hcell
   exact tz_core x _ _ w (by simp; omega) (tz_key x _ (by omega) hx0 hlow) hi hcell hk
 ·cases h
end Go.Proofs.YtbikiibpjdiaaaaDoor.Tab
