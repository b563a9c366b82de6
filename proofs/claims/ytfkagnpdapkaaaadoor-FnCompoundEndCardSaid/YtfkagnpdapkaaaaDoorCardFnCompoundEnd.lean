/- FnCompoundEnd: the tied card of the law, out of its row (YtfkagnpdapkaaaaDoorLawFnCompoundEnd) and the given tie. -/
import Derived.Test.YtfkagnpdapkaaaaDoorLawFnCompoundEnd
import Derived.Test.YtfkagnpdapkaaaaDoorCards
import Derived.Test.YtfkagnpdapkaaaaDoorFactsC
namespace Go.Proofs.YtfkagnpdapkaaaaDoor
open Go
theorem fnCompoundEnd_wfText : Rows.fnCompoundEndRow.wfByText (OpenSpec.ofChange Rows.fnCompoundEndSpec) = true := by kernel_rfl
theorem fnCompoundEnd_goes : false = Rows.fnCompoundEndRow.goesBy Tryd.pinned.checked.prog := by kernel_rfl
theorem fnCompoundEnd_named : Tryd.prog.funcNamed "loop.example/pub-g01526/laws.FnCompoundEnd" = some 5 := by kernel_rfl
theorem fnCompoundEnd_wants : ([22, 3].all fun u => !Tryd.prog.wantsStandIn u) = true := by kernel_rfl
theorem fnCompoundEndCard_holds : Rows.FnCompoundEndCardSaid :=
  Claim7.holds_tied_plain_at .later [] [.data, .data, .pinned, .pinned, .pinned, .pinned, .pinned, .pinned] true (true, "cb39acbbe49c77861e49c2f8ae2c0da0037ad91f97c3cd174d401de374954090") true fnCompoundEnd_holds (fun _ h => by cases h) fnCompoundEnd_wfText (fun _ h => by cases h) fnCompoundEnd_row_tie rfl ⟨rfl, rfl⟩ Facts.mainIs rfl
    (fun f fn hf hfn => by
      obtain rfl : f = 5 := Option.some.inj (fnCompoundEnd_named.symm.trans hf) |>.symm
      obtain rfl : fn = Tryd.f5 := (Option.some.inj (Tryd.func5.symm.trans hfn)).symm
      exact ⟨Facts.looks, fun j t ht => by
        rw [Tryd.params5] at ht
        have hm : t ∈ [22, 3] := by simpa using Array.mem_of_getElem? ht
        exact (show Tryd.prog.wantsStandIn t = false by simpa using List.all_eq_true.1 fnCompoundEnd_wants t hm)⟩)
    fnCompoundEnd_goes
#print axioms fnCompoundEndCard_holds
end Go.Proofs.YtfkagnpdapkaaaaDoor
