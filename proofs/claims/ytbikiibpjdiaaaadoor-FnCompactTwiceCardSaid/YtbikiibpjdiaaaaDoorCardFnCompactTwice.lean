/- FnCompactTwice: the tied card of the law, out of its row (YtbikiibpjdiaaaaDoorLawFnCompactTwice) and the given tie. -/
import Derived.Test.YtbikiibpjdiaaaaDoorLawFnCompactTwice
import Derived.Test.YtbikiibpjdiaaaaDoorCards
import Derived.Test.YtbikiibpjdiaaaaDoorFactsC
namespace Go.Proofs.YtbikiibpjdiaaaaDoor
open Go
theorem fnCompactTwice_wfText : Rows.fnCompactTwiceRow.wfByText (OpenSpec.ofChange Rows.fnCompactTwiceSpec) = true := by kernel_rfl
theorem fnCompactTwice_goes : false = Rows.fnCompactTwiceRow.goesBy Tryd.pinned.checked.prog := by kernel_rfl
theorem fnCompactTwice_named : Tryd.prog.funcNamed "loop.example/pub-g01526/laws.FnCompactTwice" = some 4 := by kernel_rfl
theorem fnCompactTwice_wants : ([22, 4].all fun u => !Tryd.prog.wantsStandIn u) = true := by kernel_rfl
theorem fnCompactTwiceCard_holds : Rows.FnCompactTwiceCardSaid :=
  Claim7.holds_tied_plain_at .later [] [.data, .data, .pinned, .pinned, .pinned, .pinned, .pinned, .pinned] true (true, "1037b42718e11e3170060af0ccec2b5733087d977aabe74401e34130f844f533") false fnCompactTwice_holds (fun _ h => by cases h) fnCompactTwice_wfText (fun _ h => by cases h) fnCompactTwice_row_tie rfl ⟨rfl, rfl⟩ Facts.mainIs rfl
    (fun f fn hf hfn => by
      obtain rfl : f = 4 := Option.some.inj (fnCompactTwice_named.symm.trans hf) |>.symm
      obtain rfl : fn = Tryd.f4 := (Option.some.inj (Tryd.func4.symm.trans hfn)).symm
      exact ⟨Facts.looks, fun j t ht => by
        rw [Tryd.params4] at ht
        have hm : t ∈ [22, 4] := by simpa using Array.mem_of_getElem? ht
        exact (show Tryd.prog.wantsStandIn t = false by simpa using List.all_eq_true.1 fnCompactTwice_wants t hm)⟩)
    fnCompactTwice_goes
#print axioms fnCompactTwiceCard_holds
end Go.Proofs.YtbikiibpjdiaaaaDoor
