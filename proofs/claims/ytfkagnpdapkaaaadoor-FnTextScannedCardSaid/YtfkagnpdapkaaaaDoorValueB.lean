/- What the laws with a place share: bounds, blocks. -/
import Derived.Test.YtfkagnpdapkaaaaDoorEndW
import Derived.Test.YtfkagnpdapkaaaaDoorScG
import Derived.Test.YtfkagnpdapkaaaaDoorQL1
namespace Go.Proofs.YtfkagnpdapkaaaaDoor.Err
open Go.RowKit Go.Proofs.YtfkagnpdapkaaaaDoorW.PrintWords Go.Proofs.YtfkagnpdapkaaaaDoorW.PrintLast Go.Proofs.YtfkagnpdapkaaaaDoorW.PrintMore
open Go.Proofs.YtfkagnpdapkaaaaDoor.Dig Go.Proofs.YtfkagnpdapkaaaaDoor.Tab Go.Proofs.YtfkagnpdapkaaaaDoor.QF Go.Proofs.YtfkagnpdapkaaaaDoor.QL
set_option linter.unusedVariables false
theorem fitsB (A : Option Addr) (c : Nat) (l : List Int) (i : Int) (w : World) (hC : Kd.C (Kd.int .u8) w A l.length l) (hcap : l.length ≤ c) : Calls Tryd.prog 24 #[.slice A l.length c, .int .i64 i] w fun e w' => e = .returned (.bool (decide (l.length ≤ 10000 ∧ 0 ≤ i ∧ i ≤ l.length))) ∧ Drawn0 w w' := by
  refine laws_fits.calls A c l i _ w hC hcap ?_
  unfold laws_fits.f
  by_cases h1 : (l.length : Int) ≤ 10000
  · rw [if_pos h1]
    by_cases h2 : i ≥ 0
    · rw [if_pos h2]
      congr 1
      rw [Bool.eq_iff_iff]
      simp
      omega
    · rw [if_neg h2, decide_eq_false (by omega)]
  · rw [if_neg h1, decide_eq_false (by omega)]
theorem wfI64 {a : Int} (h : (Lit.int .i64 a).wf = true) : -9223372036854775808 ≤ a ∧ a ≤ 9223372036854775807 := by
  have h2 : (decide (IntKind.i64.min ≤ a) && decide (a ≤ IntKind.i64.max)) = true := h
  rw [Bool.and_eq_true] at h2
  exact ⟨of_decide_eq_true h2.1, of_decide_eq_true h2.2⟩
end Go.Proofs.YtfkagnpdapkaaaaDoor.Err
