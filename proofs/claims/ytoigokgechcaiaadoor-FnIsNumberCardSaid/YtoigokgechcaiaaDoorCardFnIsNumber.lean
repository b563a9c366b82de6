/- FnIsNumber: the tied card of the law, out of its row (YtoigokgechcaiaaDoorLawFnIsNumber) and the given tie. -/
import Derived.Test.YtoigokgechcaiaaDoorLawFnIsNumber
import Derived.Test.YtoigokgechcaiaaDoorCards
namespace Go.Proofs.YtoigokgechcaiaaDoor
open Go
theorem fnIsNumberCard_holds : Rows.FnIsNumberCardSaid :=
  Claim7.holds_tied_plain_at .later [] [.data] true (true, "a48696a3295ffd7741e1bc8c6f595f30e731f28718377ba1825fc20d2c5ff8ff") false fnIsNumber_holds (fun _ h => by cases h) (by kernel_rfl) (fun _ h => by cases h) fnIsNumber_row_tie rfl ⟨rfl, rfl⟩ (by kernel_rfl) rfl
    (fun f fn hf hfn => by
      obtain rfl : f = 4 := Option.some.inj ((show Tryd.prog.funcNamed "loop.example/pub-g01526/laws.FnIsNumber" = some 4 by kernel_rfl).symm.trans hf) |>.symm
      obtain rfl : fn = Tryd.f4 := (Option.some.inj (Tryd.func4.symm.trans hfn)).symm
      exact ⟨by kernel_rfl, fun j t ht => by
        rw [Tryd.params4] at ht
        have hm : t ∈ [22] := by simpa using Array.mem_of_getElem? ht
        have hall : ([22].all fun u => !Tryd.prog.wantsStandIn u) = true := by kernel_rfl
        exact (show Tryd.prog.wantsStandIn t = false by simpa using List.all_eq_true.1 hall t hm)⟩)
    (by kernel_rfl)
#print axioms fnIsNumberCard_holds
end Go.Proofs.YtoigokgechcaiaaDoor
