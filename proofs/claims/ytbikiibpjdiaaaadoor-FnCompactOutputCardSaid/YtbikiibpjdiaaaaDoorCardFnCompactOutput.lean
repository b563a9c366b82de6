/- FnCompactOutput: the tied card of the law, out of its row (YtbikiibpjdiaaaaDoorLawFnCompactOutput) and the given tie. -/
import Derived.Test.YtbikiibpjdiaaaaDoorLawFnCompactOutput
import Derived.Test.YtbikiibpjdiaaaaDoorCards
import Derived.Test.YtbikiibpjdiaaaaDoorFactsC
namespace Go.Proofs.YtbikiibpjdiaaaaDoor
open Go
theorem fnCompactOutput_wfText : Rows.fnCompactOutputRow.wfByText (OpenSpec.ofChange Rows.fnCompactOutputSpec) = true := by kernel_rfl
theorem fnCompactOutput_goes : false = Rows.fnCompactOutputRow.goesBy Tryd.pinned.checked.prog := by kernel_rfl
theorem fnCompactOutput_named : Tryd.prog.funcNamed "loop.example/pub-g01526/laws.FnCompactOutput" = some 6 := by kernel_rfl
theorem fnCompactOutput_wants : ([22, 4].all fun u => !Tryd.prog.wantsStandIn u) = true := by kernel_rfl
theorem fnCompactOutputCard_holds : Rows.FnCompactOutputCardSaid :=
  Claim7.holds_tied_plain_at .later [] [.data, .data, .pinned, .pinned, .pinned, .pinned, .pinned, .pinned] true (true, "1037b42718e11e3170060af0ccec2b5733087d977aabe74401e34130f844f533") false fnCompactOutput_holds (fun _ h => by cases h) fnCompactOutput_wfText (fun _ h => by cases h) fnCompactOutput_row_tie rfl ⟨rfl, rfl⟩ Facts.mainIs rfl
    (fun f fn hf hfn => by
      obtain rfl : f = 6 := Option.some.inj (fnCompactOutput_named.symm.trans hf) |>.symm
      obtain rfl : fn = Tryd.f6 := (Option.some.inj (Tryd.func6.symm.trans hfn)).symm
      exact ⟨Facts.looks, fun j t ht => by
        rw [Tryd.params6] at ht
        have hm : t ∈ [22, 4] := by simpa using Array.mem_of_getElem? ht
        exact (show Tryd.prog.wantsStandIn t = false by simpa using List.all_eq_true.1 fnCompactOutput_wants t hm)⟩)
    fnCompactOutput_goes
#print axioms fnCompactOutputCard_holds
end Go.Proofs.YtbikiibpjdiaaaaDoor
