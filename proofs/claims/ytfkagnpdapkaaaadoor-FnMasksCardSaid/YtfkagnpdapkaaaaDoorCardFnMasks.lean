/- FnMasks: the tied card of the law, out of its row (YtfkagnpdapkaaaaDoorLawFnMasks) and the given tie. -/
import Derived.Test.YtfkagnpdapkaaaaDoorLawFnMasks
import Derived.Test.YtfkagnpdapkaaaaDoorCards
import Derived.Test.YtfkagnpdapkaaaaDoorFactsC
namespace Go.Proofs.YtfkagnpdapkaaaaDoor
open Go
theorem fnMasks_wfText : Rows.fnMasksRow.wfByText (OpenSpec.ofChange Rows.fnMasksSpec) = true := by kernel_rfl
theorem fnMasks_goes : false = Rows.fnMasksRow.goesBy Tryd.pinned.checked.prog := by kernel_rfl
theorem fnMasks_named : Tryd.prog.funcNamed "loop.example/pub-g01526/laws.FnMasks" = some 4 := by kernel_rfl
theorem fnMasks_wants : ([34].all fun u => !Tryd.prog.wantsStandIn u) = true := by kernel_rfl
theorem fnMasksCard_holds : Rows.FnMasksCardSaid :=
  Claim7.holds_tied_plain_at .later [] [.data, .data, .pinned, .pinned, .pinned, .pinned, .pinned, .pinned] true (true, "cb39acbbe49c77861e49c2f8ae2c0da0037ad91f97c3cd174d401de374954090") true fnMasks_holds (fun _ h => by cases h) fnMasks_wfText (fun _ h => by cases h) fnMasks_row_tie rfl ⟨rfl, rfl⟩ Facts.mainIs rfl
    (fun f fn hf hfn => by
      obtain rfl : f = 4 := Option.some.inj (fnMasks_named.symm.trans hf) |>.symm
      obtain rfl : fn = Tryd.f4 := (Option.some.inj (Tryd.func4.symm.trans hfn)).symm
      exact ⟨Facts.looks, fun j t ht => by
        rw [Tryd.params4] at ht
        have hm : t ∈ [34] := by simpa using Array.mem_of_getElem? ht
        exact (show Tryd.prog.wantsStandIn t = false by simpa using List.all_eq_true.1 fnMasks_wants t hm)⟩)
    fnMasks_goes
#print axioms fnMasksCard_holds
end Go.Proofs.YtfkagnpdapkaaaaDoor
