/- The end of a number that begins bytes is told if a byte that ends it follows, and -1 if none follows, or if the number is invalid. For every input; bytes of more than 1000 are not spoken of; the package-level table of math/bits as Go's text lays it. -/
import Derived.Test.YtoigokgechcaiaaDoorEndP
import Derived.Test.YtoigokgechcaiaaDoorQNm6
namespace Go.Proofs.YtoigokgechcaiaaDoor.Pure
open Go.RowKit Go.Proofs.YtoigokgechcaiaaDoor.QNm Go.Proofs.YtoigokgechcaiaaDoorW.PrintWords Go.Proofs.YtoigokgechcaiaaDoorW.PrintLast Go.Proofs.YtoigokgechcaiaaDoor.Dig
theorem ends8_f (c : Int) : ∃ b, laws_ends8.f c = some b := by
  unfold laws_ends8.f
  repeat' (first | exact ⟨_, rfl⟩ | split)
theorem FnNumberEnd : laws_FnNumberEnd.Pure := by
  intro l h1 h2 hw
  obtain ⟨K, hK⟩ : ∃ K, K = 2000 := ⟨_, rfl⟩
  refine ⟨K + 1, ?_⟩
  unfold laws_FnNumberEnd.f
  by_cases c1 : (l.length : Int) > 2147483647
  · rw [if_pos c1]
  rw [if_neg c1]
  by_cases c2 : (l.length : Int) > 1000
  · rw [if_pos c2]
  have hb := bytes_of l hw
  have he : impl_EndOfNumber.f K l = some (fin l (scanNum l)) := by unfold impl_EndOfNumber.f; rw [pack_end l hb (by omega) K (by omega)]; rfl
  rw [if_neg c2, spec_scan l (by omega) (K + 1) (by omega), Option.bind_some]
  by_cases h0 : (scanNum l).2 = 0
  · have hle := scan_le l h0
    have hp : scanNum l = ((scanNum l).1, 0) := by rw [← h0]
    rw [if_pos (by unfold z2; omega)]
    by_cases hn : (scanNum l).1 = l.length
    · rw [show ((z2 (scanNum l)).1 == (l.length : Int)) = true from by unfold z2; simp [hn], laws_FnNumberEnd.j0, if_pos rfl, he, Option.bind_some, hp, fin_ok, if_pos (by omega)]
      rfl
    · rw [show ((z2 (scanNum l)).1 == (l.length : Int)) = false from by unfold z2; simp; omega, laws_FnNumberEnd.j0, if_neg Bool.false_ne_true, if_pos (by unfold z2; omega), if_pos (by unfold z2; omega)]
      obtain ⟨b, hb2⟩ := ends8_f (rd l (z2 (scanNum l)).1)
      rw [hb2, Option.bind_some]
      cases b with
      | false => rfl
      | true =>
        rw [if_pos rfl, he, Option.bind_some, hp, fin_ok, if_neg (by omega)]
        simp [z2]
  · rw [if_neg (by unfold z2; omega), laws_FnNumberEnd.j0, if_pos rfl, he, Option.bind_some, show fin l (scanNum l) = -1 from if_neg (fun h => h0 h.1)]
    rfl
end Go.Proofs.YtoigokgechcaiaaDoor.Pure
