/- A point and the letters of an exponent continue an integer as a number that is none, and no other byte does: for every byte, no condition. -/
import Derived.Test.YtoigokgechcaiaaPFnContinuesx1
namespace Go.Proofs.Ytoigokgechcaiaa.Pure
open Go.RowKit Go.Proofs.Ytoigokgechcaiaa.PFnContinues Go.Proofs.YtoigokgechcaiaaW.PrintWords Go.Proofs.YtoigokgechcaiaaW.PrintLast Go.Proofs.YtoigokgechcaiaaW.PrintMore

theorem FnContinues : laws_FnContinues.Pure := by
  intro a h
  unfold laws_FnContinues.f impl_Continues.f gojsonnum_IsFloatContinuation.f
  by_cases h1 : a = 46
  · simp [h1]
  · by_cases h2 : a = 101
    · simp [h2]
    · simp [h1, h2]
end Go.Proofs.Ytoigokgechcaiaa.Pure
