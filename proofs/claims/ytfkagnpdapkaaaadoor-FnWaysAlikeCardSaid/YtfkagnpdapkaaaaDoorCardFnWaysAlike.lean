/- FnWaysAlike: the tied card of the law, out of its row (YtfkagnpdapkaaaaDoorLawFnWaysAlike) and the given tie. -/
import Derived.Test.YtfkagnpdapkaaaaDoorLawFnWaysAlike
import Derived.Test.YtfkagnpdapkaaaaDoorCards
import Derived.Test.YtfkagnpdapkaaaaDoorFactsC
namespace Go.Proofs.YtfkagnpdapkaaaaDoor
open Go
theorem fnWaysAlike_wfText : Rows.fnWaysAlikeRow.wfByText (OpenSpec.ofChange Rows.fnWaysAlikeSpec) = true := by kernel_rfl
theorem fnWaysAlike_goes : false = Rows.fnWaysAlikeRow.goesBy Tryd.pinned.checked.prog := by kernel_rfl
theorem fnWaysAlike_named : Tryd.prog.funcNamed "loop.example/pub-g01526/laws.FnWaysAlike" = some 11 := by kernel_rfl
theorem fnWaysAlike_wants : ([22, 3].all fun u => !Tryd.prog.wantsStandIn u) = true := by kernel_rfl
theorem fnWaysAlikeCard_holds : Rows.FnWaysAlikeCardSaid :=
  Claim7.holds_tied_plain_at .later [] [.data, .data, .pinned, .pinned, .pinned, .pinned, .pinned, .pinned] true (true, "cb39acbbe49c77861e49c2f8ae2c0da0037ad91f97c3cd174d401de374954090") true fnWaysAlike_holds (fun _ h => by cases h) fnWaysAlike_wfText (fun _ h => by cases h) fnWaysAlike_row_tie rfl ⟨rfl, rfl⟩ Facts.mainIs rfl
    (fun f fn hf hfn => by
      obtain rfl : f = 11 := Option.some.inj (fnWaysAlike_named.symm.trans hf) |>.symm
      obtain rfl : fn = Tryd.f11 := (Option.some.inj (Tryd.func11.symm.trans hfn)).symm
      exact ⟨Facts.looks, fun j t ht => by
        rw [Tryd.params11] at ht
        have hm : t ∈ [22, 3] := by simpa using Array.mem_of_getElem? ht
        exact (show Tryd.prog.wantsStandIn t = false by simpa using List.all_eq_true.1 fnWaysAlike_wants t hm)⟩)
    fnWaysAlike_goes
#print axioms fnWaysAlikeCard_holds
end Go.Proofs.YtfkagnpdapkaaaaDoor
