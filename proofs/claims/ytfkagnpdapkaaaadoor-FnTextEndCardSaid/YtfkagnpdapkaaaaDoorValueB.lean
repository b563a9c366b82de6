/- What the laws with a place share: bounds, blocks. -/
import Derived.Test.YtfkagnpdapkaaaaDoorScG
import Derived.Test.YtfkagnpdapkaaaaDoorQL1
import Derived.Test.YtfkagnpdapkaaaaDoorScT
namespace Go.Proofs.YtfkagnpdapkaaaaDoor.Err
open Go.RowKit Go.Proofs.YtfkagnpdapkaaaaDoorW.PrintWords Go.Proofs.YtfkagnpdapkaaaaDoorW.PrintLast Go.Proofs.YtfkagnpdapkaaaaDoorW.PrintMore
open Go.Proofs.YtfkagnpdapkaaaaDoor.Dig Go.Proofs.YtfkagnpdapkaaaaDoor.Tab Go.Proofs.YtfkagnpdapkaaaaDoor.QF Go.Proofs.YtfkagnpdapkaaaaDoor.QL
set_option linter.unusedVariables false
theorem fitsB (A : Option Addr) (c : Nat) (l : List Int) (i : Int) (w : World) (hC : Kd.C (Kd.int .u8) w A l.length l) (hcap : l.length ≤ c) : Calls Tryd.prog 24 #[.slice A l.length c, .int .i64 i] w fun e w' => e = .returned (.bool (decide (l.length ≤ 10000 ∧ 0 ≤ i ∧ i ≤ l.length))) ∧ Drawn0 w w' := by
  refine laws_fits.calls A c l i _ w hC hcap ?_
  unfold laws_fits.f
  by_cases h1 : (l.length : Int) ≤ 10000
  · rw [if_pos h1]
    by_cases h2 : i ≥ 0
    · rw [if_pos h2]
      congr 1
      rw [Bool.eq_iff_iff]
      simp
      omega
    · rw [if_neg h2, decide_eq_false (by omega)]
  · rw [if_neg h1, decide_eq_false (by omega)]
theorem wfI64 {a : Int} (h : (Lit.int .i64 a).wf = true) : -9223372036854775808 ≤ a ∧ a ≤ 9223372036854775807 := by
  have h2 : (decide (IntKind.i64.min ≤ a) && decide (a ≤ IntKind.i64.max)) = true := h
  rw [Bool.and_eq_true] at h2
  exact ⟨of_decide_eq_true h2.1, of_decide_eq_true h2.2⟩
/-- A block of six cells. -/
theorem six {w : World} {b : Nat} {v0 v1 v2 v3 v4 v5 : Value} {t : TypeId} (h : w.heap[b]? = some (.cells #[v0, v1, v2, v3, v4, v5] t (0, 0))) :
    w.cell? ⟨b, 0, none⟩ = some v0 ∧ w.cell? ⟨b, 1, none⟩ = some v1 ∧ w.cell? ⟨b, 2, none⟩ = some v2 ∧ w.cell? ⟨b, 3, none⟩ = some v3 ∧ w.cell? ⟨b, 4, none⟩ = some v4 ∧ w.cell? ⟨b, 5, none⟩ = some v5 ∧
    w.frozen? ⟨b, 0, none⟩ = false ∧ w.frozen? ⟨b, 1, none⟩ = false ∧ w.frozen? ⟨b, 2, none⟩ = false ∧ w.frozen? ⟨b, 3, none⟩ = false ∧ w.frozen? ⟨b, 4, none⟩ = false ∧ w.frozen? ⟨b, 5, none⟩ = false := by
  refine ⟨?_, ?_, ?_, ?_, ?_, ?_, ?_, ?_, ?_, ?_, ?_, ?_⟩ <;> simp [World.cell?, World.frozen?, h]
theorem bsix {B : Nat} {w W : World} {v0 v1 v2 v3 v4 v5 : Value} (h : Below B w W) : Below B w ((((((W.setCell ⟨B, 0, none⟩ v0).setCell ⟨B, 1, none⟩ v1).setCell ⟨B, 2, none⟩ v2).setCell ⟨B, 3, none⟩ v3).setCell ⟨B, 4, none⟩ v4).setCell ⟨B, 5, none⟩ v5) :=
  bset (bset (bset (bset (bset (bset h (Nat.le_refl _)) (Nat.le_refl _)) (Nat.le_refl _)) (Nat.le_refl _)) (Nat.le_refl _)) (Nat.le_refl _)
end Go.Proofs.YtfkagnpdapkaaaaDoor.Err
