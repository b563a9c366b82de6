/- Of any bytes the longest number of RFC 8259 that begins them is told, or the place at which it is invalid, and of which kind that place is. For every input; bytes of more than 1000 are not spoken of; the package-level table of math/bits as Go's text lays it. -/
import Derived.Test.YtoigokgechcaiaaDoorNumP
import Derived.Test.YtoigokgechcaiaaDoorQNm4
namespace Go.Proofs.YtoigokgechcaiaaDoor.Pure
open Go.RowKit Go.Proofs.YtoigokgechcaiaaDoor.QNm Go.Proofs.YtoigokgechcaiaaDoorW.PrintWords Go.Proofs.YtoigokgechcaiaaDoorW.PrintLast Go.Proofs.YtoigokgechcaiaaDoor.Dig
theorem FnNumberScanned : laws_FnNumberScanned.Pure := by
  intro l h1 h2 hw
  obtain ⟨K, hK⟩ : ∃ K, K = 2000 := ⟨_, rfl⟩
  refine ⟨K, ?_⟩
  unfold laws_FnNumberScanned.f
  by_cases c1 : (l.length : Int) > 2147483647
  · rw [if_pos c1]
  rw [if_neg c1]
  by_cases c2 : (l.length : Int) > 1000
  · rw [if_pos c2]
  rw [if_neg c2, spec_scan l (by omega) K (by omega), Option.bind_some]
  unfold impl_ScanNumber.f
  rw [pack_scan l (bytes_of l hw) (by omega) K (by omega), Option.bind_some, Option.bind_some]
  have hk := kind_le l
  rw [if_pos rfl]
  have : wrap64 (z2 (scanNum l)).2 = (z2 (scanNum l)).2 := by unfold z2 wrap64; omega
  rw [this]
  simp
end Go.Proofs.YtoigokgechcaiaaDoor.Pure
