/- FnBlankEnd: the tied card of the law, out of its row (YtfkagnpdapkaaaaDoorLawFnBlankEnd) and the given tie. -/
import Derived.Test.YtfkagnpdapkaaaaDoorLawFnBlankEnd
import Derived.Test.YtfkagnpdapkaaaaDoorCards
import Derived.Test.YtfkagnpdapkaaaaDoorFactsC
namespace Go.Proofs.YtfkagnpdapkaaaaDoor
open Go
theorem fnBlankEnd_wfText : Rows.fnBlankEndRow.wfByText (OpenSpec.ofChange Rows.fnBlankEndSpec) = true := by kernel_rfl
theorem fnBlankEnd_goes : false = Rows.fnBlankEndRow.goesBy Tryd.pinned.checked.prog := by kernel_rfl
theorem fnBlankEnd_named : Tryd.prog.funcNamed "loop.example/pub-g01526/laws.FnBlankEnd" = some 12 := by kernel_rfl
theorem fnBlankEnd_wants : ([22, 3].all fun u => !Tryd.prog.wantsStandIn u) = true := by kernel_rfl
theorem fnBlankEndCard_holds : Rows.FnBlankEndCardSaid :=
  Claim7.holds_tied_plain_at .later [] [.data, .data, .pinned, .pinned, .pinned, .pinned, .pinned, .pinned] true (true, "cb39acbbe49c77861e49c2f8ae2c0da0037ad91f97c3cd174d401de374954090") true fnBlankEnd_holds (fun _ h => by cases h) fnBlankEnd_wfText (fun _ h => by cases h) fnBlankEnd_row_tie rfl ⟨rfl, rfl⟩ Facts.mainIs rfl
    (fun f fn hf hfn => by
      obtain rfl : f = 12 := Option.some.inj (fnBlankEnd_named.symm.trans hf) |>.symm
      obtain rfl : fn = Tryd.f12 := (Option.some.inj (Tryd.func12.symm.trans hfn)).symm
      exact ⟨Facts.looks, fun j t ht => by
        rw [Tryd.params12] at ht
        have hm : t ∈ [22, 3] := by simpa using Array.mem_of_getElem? ht
        exact (show Tryd.prog.wantsStandIn t = false by simpa using List.all_eq_true.1 fnBlankEnd_wants t hm)⟩)
    fnBlankEnd_goes
#print axioms fnBlankEndCard_holds
end Go.Proofs.YtfkagnpdapkaaaaDoor
