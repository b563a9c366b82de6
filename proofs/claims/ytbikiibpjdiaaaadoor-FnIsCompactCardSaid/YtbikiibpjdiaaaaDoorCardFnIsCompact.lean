/- FnIsCompact: the tied card of the law, out of its row (YtbikiibpjdiaaaaDoorLawFnIsCompact) and the given tie. -/
import Derived.Test.YtbikiibpjdiaaaaDoorLawFnIsCompact
import Derived.Test.YtbikiibpjdiaaaaDoorCards
import Derived.Test.YtbikiibpjdiaaaaDoorFactsC
namespace Go.Proofs.YtbikiibpjdiaaaaDoor
open Go
theorem fnIsCompact_wfText : Rows.fnIsCompactRow.wfByText (OpenSpec.ofChange Rows.fnIsCompactSpec) = true := by kernel_rfl
theorem fnIsCompact_goes : false = Rows.fnIsCompactRow.goesBy Tryd.pinned.checked.prog := by kernel_rfl
theorem fnIsCompact_named : Tryd.prog.funcNamed "loop.example/pub-g01526/laws.FnIsCompact" = some 5 := by kernel_rfl
theorem fnIsCompact_wants : ([22, 4].all fun u => !Tryd.prog.wantsStandIn u) = true := by kernel_rfl
theorem fnIsCompactCard_holds : Rows.FnIsCompactCardSaid :=
  Claim7.holds_tied_plain_at .later [] [.data, .data, .pinned, .pinned, .pinned, .pinned, .pinned, .pinned] true (true, "1037b42718e11e3170060af0ccec2b5733087d977aabe74401e34130f844f533") false fnIsCompact_holds (fun _ h => by cases h) fnIsCompact_wfText (fun _ h => by cases h) fnIsCompact_row_tie rfl ⟨rfl, rfl⟩ Facts.mainIs rfl
    (fun f fn hf hfn => by
      obtain rfl : f = 5 := Option.some.inj (fnIsCompact_named.symm.trans hf) |>.symm
      obtain rfl : fn = Tryd.f5 := (Option.some.inj (Tryd.func5.symm.trans hfn)).symm
      exact ⟨Facts.looks, fun j t ht => by
        rw [Tryd.params5] at ht
        have hm : t ∈ [22, 4] := by simpa using Array.mem_of_getElem? ht
        exact (show Tryd.prog.wantsStandIn t = false by simpa using List.all_eq_true.1 fnIsCompact_wants t hm)⟩)
    fnIsCompact_goes
#print axioms fnIsCompactCard_holds
end Go.Proofs.YtbikiibpjdiaaaaDoor
