/- FnCompactByPass: the tied card of the law, out of its row (YtbikiibpjdiaaaaDoorLawFnCompactByPass) and the given tie. -/
import Derived.Test.YtbikiibpjdiaaaaDoorLawFnCompactByPass
import Derived.Test.YtbikiibpjdiaaaaDoorCards
import Derived.Test.YtbikiibpjdiaaaaDoorFactsC
namespace Go.Proofs.YtbikiibpjdiaaaaDoor
open Go
theorem fnCompactByPass_wfText : Rows.fnCompactByPassRow.wfByText (OpenSpec.ofChange Rows.fnCompactByPassSpec) = true := by kernel_rfl
theorem fnCompactByPass_goes : false = Rows.fnCompactByPassRow.goesBy Tryd.pinned.checked.prog := by kernel_rfl
theorem fnCompactByPass_named : Tryd.prog.funcNamed "loop.example/pub-g01526/laws.FnCompactByPass" = some 7 := by kernel_rfl
theorem fnCompactByPass_wants : ([22, 4].all fun u => !Tryd.prog.wantsStandIn u) = true := by kernel_rfl
theorem fnCompactByPassCard_holds : Rows.FnCompactByPassCardSaid :=
  Claim7.holds_tied_plain_at .later [] [.data, .data, .pinned, .pinned, .pinned, .pinned, .pinned, .pinned] true (true, "1037b42718e11e3170060af0ccec2b5733087d977aabe74401e34130f844f533") false fnCompactByPass_holds (fun _ h => by cases h) fnCompactByPass_wfText (fun _ h => by cases h) fnCompactByPass_row_tie rfl ⟨rfl, rfl⟩ Facts.mainIs rfl
    (fun f fn hf hfn => by
      obtain rfl : f = 7 := Option.some.inj (fnCompactByPass_named.symm.trans hf) |>.symm
      obtain rfl : fn = Tryd.f7 := (Option.some.inj (Tryd.func7.symm.trans hfn)).symm
      exact ⟨Facts.looks, fun j t ht => by
        rw [Tryd.params7] at ht
        have hm : t ∈ [22, 4] := by simpa using Array.mem_of_getElem? ht
        exact (show Tryd.prog.wantsStandIn t = false by simpa using List.all_eq_true.1 fnCompactByPass_wants t hm)⟩)
    fnCompactByPass_goes
#print axioms fnCompactByPassCard_holds
end Go.Proofs.YtbikiibpjdiaaaaDoor
