/- FnIndentKeeps: the tied card of the law, out of its row (YtbikiibpjdiaaaaDoorLawFnIndentKeeps) and the given tie. -/
import Derived.Test.YtbikiibpjdiaaaaDoorLawFnIndentKeeps
import Derived.Test.YtbikiibpjdiaaaaDoorCards
import Derived.Test.YtbikiibpjdiaaaaDoorFactsC
namespace Go.Proofs.YtbikiibpjdiaaaaDoor
open Go
theorem fnIndentKeeps_wfText : Rows.fnIndentKeepsRow.wfByText (OpenSpec.ofChange Rows.fnIndentKeepsSpec) = true := by kernel_rfl
theorem fnIndentKeeps_goes : false = Rows.fnIndentKeepsRow.goesBy Tryd.pinned.checked.prog := by kernel_rfl
theorem fnIndentKeeps_named : Tryd.prog.funcNamed "loop.example/pub-g01526/laws.FnIndentKeeps" = some 9 := by kernel_rfl
theorem fnIndentKeeps_wants : ([22, 3].all fun u => !Tryd.prog.wantsStandIn u) = true := by kernel_rfl
theorem fnIndentKeepsCard_holds : Rows.FnIndentKeepsCardSaid :=
  Claim7.holds_tied_plain_at .later [] [.data, .data, .pinned, .pinned, .pinned, .pinned, .pinned, .pinned] true (true, "1037b42718e11e3170060af0ccec2b5733087d977aabe74401e34130f844f533") false fnIndentKeeps_holds (fun _ h => by cases h) fnIndentKeeps_wfText (fun _ h => by cases h) fnIndentKeeps_row_tie rfl ⟨rfl, rfl⟩ Facts.mainIs rfl
    (fun f fn hf hfn => by
      obtain rfl : f = 9 := Option.some.inj (fnIndentKeeps_named.symm.trans hf) |>.symm
      obtain rfl : fn = Tryd.f9 := (Option.some.inj (Tryd.func9.symm.trans hfn)).symm
      exact ⟨Facts.looks, fun j t ht => by
        rw [Tryd.params9] at ht
        have hm : t ∈ [22, 3] := by simpa using Array.mem_of_getElem? ht
        exact (show Tryd.prog.wantsStandIn t = false by simpa using List.all_eq_true.1 fnIndentKeeps_wants t hm)⟩)
    fnIndentKeeps_goes
#print axioms fnIndentKeepsCard_holds
end Go.Proofs.YtbikiibpjdiaaaaDoor
