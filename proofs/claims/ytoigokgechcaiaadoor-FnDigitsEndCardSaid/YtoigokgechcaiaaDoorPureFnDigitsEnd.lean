/- The place of the first byte from one on that is not a digit is told. For every input; bytes of more than 1000 are not spoken of; the package-level table of math/bits as Go's text lays it. -/
import Derived.Test.YtoigokgechcaiaaDoorScanN
namespace Go.Proofs.YtoigokgechcaiaaDoor.Pure
open Go.RowKit Go.Proofs.YtoigokgechcaiaaDoor.QNm Go.Proofs.YtoigokgechcaiaaDoorW.PrintWords Go.Proofs.YtoigokgechcaiaaDoorW.PrintLast Go.Proofs.YtoigokgechcaiaaDoor.Dig
theorem FnDigitsEnd : laws_FnDigitsEnd.Pure := by
  intro l a h1 h2 hw ha
  obtain ⟨K, hK⟩ : ∃ K, K = l.length + 5 := ⟨_, rfl⟩
  refine ⟨K, ?_⟩
  unfold laws_FnDigitsEnd.f
  by_cases c1 : (l.length : Int) > 2147483647
  · rw [if_pos c1]
  rw [if_neg c1]
  by_cases c2 : (l.length : Int) > 1000
  · rw [if_pos c2]
  rw [if_neg c2]
  by_cases c3 : a < 0
  · rw [if_pos c3]
  rw [if_neg c3]
  by_cases c4 : a > (l.length : Int)
  · rw [if_pos c4]
  rw [if_neg c4]
  obtain ⟨i, rfl⟩ := Int.eq_ofNat_of_zero_le (by omega : 0 ≤ a)
  unfold impl_DigitsEnd.f spec_DigitsEnd8.f
  rw [Scan_f l (bytes_of l hw) (by omega) i K (by omega) (by omega), digits8_f l (by omega) i K (by omega) (by omega)]
  simp only [Option.bind_some, beq_self_eq_true]
end Go.Proofs.YtoigokgechcaiaaDoor.Pure
