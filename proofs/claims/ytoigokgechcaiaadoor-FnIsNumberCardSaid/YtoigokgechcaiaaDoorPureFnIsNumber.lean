/- FnIsNumber, the plain law: the table of states and the longest number tell the same. -/
import Derived.Test.YtoigokgechcaiaaDoorQIv1
import Derived.Test.YtoigokgechcaiaaDoorNumP
namespace Go.Proofs.YtoigokgechcaiaaDoor.Pure
open Go.RowKit Go.Proofs.YtoigokgechcaiaaDoor.QIv Go.Proofs.YtoigokgechcaiaaDoor.QIs Go.Proofs.YtoigokgechcaiaaDoor.AccT Go.Proofs.YtoigokgechcaiaaDoor.Dig Go.Proofs.YtoigokgechcaiaaDoorW.PrintWords Go.Proofs.YtoigokgechcaiaaDoorW.PrintLast
theorem FnIsNumber : laws_FnIsNumber.Pure := by
  intro l0 hm hy hw
  refine ⟨1021, ?_⟩
  unfold laws_FnIsNumber.f
  by_cases h1 : (l0.length : Int) > 2147483647
  · rw [if_pos h1]
  · rw [if_neg h1]
    by_cases h2 : (l0.length : Int) > 1000
    · rw [if_pos h2]
    · rw [if_neg h2]
      have hb := bytes_of l0 hw
      have e1 : impl_IsNumber.f l0 = some (decide (scanNum l0 = (l0.length, 0))) := by
        unfold impl_IsNumber.f isv.f
        rw [if_pos ⟨by omega, List.all_eq_true.2 fun x hx => decide_eq_true (hb x hx)⟩]
        rfl
      have e2 : spec_IsNumber8.f 1021 l0 = some (decide (scanNum l0 = (l0.length, 0))) := by
        unfold spec_IsNumber8.f
        rw [spec_scan l0 (by omega) 1021 (by omega), Option.bind_some]
        unfold z2
        obtain ⟨n, p⟩ := scanNum l0
        by_cases h3 : p = 0
        · subst h3
          show (if ((0 : Nat) : Int) = 0 then some (((n : Nat) : Int) == (l0.length : Int)) else some false) = _
          rw [if_pos (by rfl)]
          congr 1
          rw [Bool.eq_iff_iff]
          simp
          omega
        · show (if ((p : Nat) : Int) = 0 then some (((n : Nat) : Int) == (l0.length : Int)) else some false) = _
          rw [if_neg (by omega), decide_eq_false (by simp [h3])]
      rw [e1, e2]
      simp
end Go.Proofs.YtoigokgechcaiaaDoor.Pure
