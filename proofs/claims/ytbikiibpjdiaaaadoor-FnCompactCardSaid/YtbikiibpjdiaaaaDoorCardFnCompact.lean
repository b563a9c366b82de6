/- FnCompact: the tied card of the law, out of its row (YtbikiibpjdiaaaaDoorLawFnCompact) and the given tie. -/
import Derived.Test.YtbikiibpjdiaaaaDoorLawFnCompact
import Derived.Test.YtbikiibpjdiaaaaDoorCards
import Derived.Test.YtbikiibpjdiaaaaDoorFactsC
namespace Go.Proofs.YtbikiibpjdiaaaaDoor
open Go
theorem fnCompact_wfText : Rows.fnCompactRow.wfByText (OpenSpec.ofChange Rows.fnCompactSpec) = true := by kernel_rfl
theorem fnCompact_goes : false = Rows.fnCompactRow.goesBy Tryd.pinned.checked.prog := by kernel_rfl
theorem fnCompact_named : Tryd.prog.funcNamed "loop.example/pub-g01526/laws.FnCompact" = some 3 := by kernel_rfl
theorem fnCompact_wants : ([22, 4].all fun u => !Tryd.prog.wantsStandIn u) = true := by kernel_rfl
theorem fnCompactCard_holds : Rows.FnCompactCardSaid :=
  Claim7.holds_tied_plain_at .later [] [.data, .data, .pinned, .pinned, .pinned, .pinned, .pinned, .pinned] true (true, "1037b42718e11e3170060af0ccec2b5733087d977aabe74401e34130f844f533") false fnCompact_holds (fun _ h => by cases h) fnCompact_wfText (fun _ h => by cases h) fnCompact_row_tie rfl ⟨rfl, rfl⟩ Facts.mainIs rfl
    (fun f fn hf hfn => by
      obtain rfl : f = 3 := Option.some.inj (fnCompact_named.symm.trans hf) |>.symm
      obtain rfl : fn = Tryd.f3 := (Option.some.inj (Tryd.func3.symm.trans hfn)).symm
      exact ⟨Facts.looks, fun j t ht => by
        rw [Tryd.params3] at ht
        have hm : t ∈ [22, 4] := by simpa using Array.mem_of_getElem? ht
        exact (show Tryd.prog.wantsStandIn t = false by simpa using List.all_eq_true.1 fnCompact_wants t hm)⟩)
    fnCompact_goes
#print axioms fnCompactCard_holds
end Go.Proofs.YtbikiibpjdiaaaaDoor
