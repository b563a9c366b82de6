/- FnIndent: the tied card of the law, out of its row (YtbikiibpjdiaaaaDoorLawFnIndent) and the given tie. -/
import Derived.Test.YtbikiibpjdiaaaaDoorLawFnIndent
import Derived.Test.YtbikiibpjdiaaaaDoorCards
import Derived.Test.YtbikiibpjdiaaaaDoorFactsC
namespace Go.Proofs.YtbikiibpjdiaaaaDoor
open Go
theorem fnIndent_wfText : Rows.fnIndentRow.wfByText (OpenSpec.ofChange Rows.fnIndentSpec) = true := by kernel_rfl
theorem fnIndent_goes : false = Rows.fnIndentRow.goesBy Tryd.pinned.checked.prog := by kernel_rfl
theorem fnIndent_named : Tryd.prog.funcNamed "loop.example/pub-g01526/laws.FnIndent" = some 8 := by kernel_rfl
theorem fnIndent_wants : ([22, 9, 4].all fun u => !Tryd.prog.wantsStandIn u) = true := by kernel_rfl
theorem fnIndentCard_holds : Rows.FnIndentCardSaid :=
  Claim7.holds_tied_plain_at .later [] [.data, .data, .pinned, .pinned, .pinned, .pinned, .pinned, .pinned] true (true, "1037b42718e11e3170060af0ccec2b5733087d977aabe74401e34130f844f533") false fnIndent_holds (fun _ h => by cases h) fnIndent_wfText (fun _ h => by cases h) fnIndent_row_tie rfl ⟨rfl, rfl⟩ Facts.mainIs rfl
    (fun f fn hf hfn => by
      obtain rfl : f = 8 := Option.some.inj (fnIndent_named.symm.trans hf) |>.symm
      obtain rfl : fn = Tryd.f8 := (Option.some.inj (Tryd.func8.symm.trans hfn)).symm
      exact ⟨Facts.looks, fun j t ht => by
        rw [Tryd.params8] at ht
        have hm : t ∈ [22, 9, 4] := by simpa using Array.mem_of_getElem? ht
        exact (show Tryd.prog.wantsStandIn t = false by simpa using List.all_eq_true.1 fnIndent_wants t hm)⟩)
    fnIndent_goes
#print axioms fnIndentCard_holds
end Go.Proofs.YtbikiibpjdiaaaaDoor
