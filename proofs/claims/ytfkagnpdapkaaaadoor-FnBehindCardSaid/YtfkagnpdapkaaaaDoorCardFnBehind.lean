/- FnBehind: the tied card of the law, out of its row (YtfkagnpdapkaaaaDoorLawFnBehind) and the given tie. -/
import Derived.Test.YtfkagnpdapkaaaaDoorLawFnBehind
import Derived.Test.YtfkagnpdapkaaaaDoorCards
import Derived.Test.YtfkagnpdapkaaaaDoorFactsC
namespace Go.Proofs.YtfkagnpdapkaaaaDoor
open Go
theorem fnBehind_wfText : Rows.fnBehindRow.wfByText (OpenSpec.ofChange Rows.fnBehindSpec) = true := by kernel_rfl
theorem fnBehind_goes : false = Rows.fnBehindRow.goesBy Tryd.pinned.checked.prog := by kernel_rfl
theorem fnBehind_named : Tryd.prog.funcNamed "loop.example/pub-g01526/laws.FnBehind" = some 14 := by kernel_rfl
theorem fnBehind_wants : ([22, 3].all fun u => !Tryd.prog.wantsStandIn u) = true := by kernel_rfl
theorem fnBehindCard_holds : Rows.FnBehindCardSaid :=
  Claim7.holds_tied_plain_at .later [] [.data, .data, .pinned, .pinned, .pinned, .pinned, .pinned, .pinned] true (true, "cb39acbbe49c77861e49c2f8ae2c0da0037ad91f97c3cd174d401de374954090") true fnBehind_holds (fun _ h => by cases h) fnBehind_wfText (fun _ h => by cases h) fnBehind_row_tie rfl ⟨rfl, rfl⟩ Facts.mainIs rfl
    (fun f fn hf hfn => by
      obtain rfl : f = 14 := Option.some.inj (fnBehind_named.symm.trans hf) |>.symm
      obtain rfl : fn = Tryd.f14 := (Option.some.inj (Tryd.func14.symm.trans hfn)).symm
      exact ⟨Facts.looks, fun j t ht => by
        rw [Tryd.params14] at ht
        have hm : t ∈ [22, 3] := by simpa using Array.mem_of_getElem? ht
        exact (show Tryd.prog.wantsStandIn t = false by simpa using List.all_eq_true.1 fnBehind_wants t hm)⟩)
    fnBehind_goes
#print axioms fnBehindCard_holds
end Go.Proofs.YtfkagnpdapkaaaaDoor
