/- FnNumberPassed: the tied card of the law, out of its row (YtfkagnpdapkaaaaDoorLawFnNumberPassed) and the given tie. -/
import Derived.Test.YtfkagnpdapkaaaaDoorLawFnNumberPassed
import Derived.Test.YtfkagnpdapkaaaaDoorCards
import Derived.Test.YtfkagnpdapkaaaaDoorFactsC
namespace Go.Proofs.YtfkagnpdapkaaaaDoor
open Go
theorem fnNumberPassed_wfText : Rows.fnNumberPassedRow.wfByText (OpenSpec.ofChange Rows.fnNumberPassedSpec) = true := by kernel_rfl
theorem fnNumberPassed_goes : false = Rows.fnNumberPassedRow.goesBy Tryd.pinned.checked.prog := by kernel_rfl
theorem fnNumberPassed_named : Tryd.prog.funcNamed "loop.example/pub-g01526/laws.FnNumberPassed" = some 18 := by kernel_rfl
theorem fnNumberPassed_wants : ([22, 2].all fun u => !Tryd.prog.wantsStandIn u) = true := by kernel_rfl
theorem fnNumberPassedCard_holds : Rows.FnNumberPassedCardSaid :=
  Claim7.holds_tied_plain_at .later [] [.data, .data, .pinned, .pinned, .pinned, .pinned, .pinned, .pinned] true (true, "cb39acbbe49c77861e49c2f8ae2c0da0037ad91f97c3cd174d401de374954090") true fnNumberPassed_holds (fun _ h => by cases h) fnNumberPassed_wfText (fun _ h => by cases h) fnNumberPassed_row_tie rfl ⟨rfl, rfl⟩ Facts.mainIs rfl
    (fun f fn hf hfn => by
      obtain rfl : f = 18 := Option.some.inj (fnNumberPassed_named.symm.trans hf) |>.symm
      obtain rfl : fn = Tryd.f18 := (Option.some.inj (Tryd.func18.symm.trans hfn)).symm
      exact ⟨Facts.looks, fun j t ht => by
        rw [Tryd.params18] at ht
        have hm : t ∈ [22, 2] := by simpa using Array.mem_of_getElem? ht
        exact (show Tryd.prog.wantsStandIn t = false by simpa using List.all_eq_true.1 fnNumberPassed_wants t hm)⟩)
    fnNumberPassed_goes
#print axioms fnNumberPassedCard_holds
end Go.Proofs.YtfkagnpdapkaaaaDoor
