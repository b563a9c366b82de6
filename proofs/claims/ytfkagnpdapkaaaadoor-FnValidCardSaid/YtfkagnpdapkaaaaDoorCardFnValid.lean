/- FnValid: the tied card of the law, out of its row (YtfkagnpdapkaaaaDoorLawFnValid) and the given tie. -/
import Derived.Test.YtfkagnpdapkaaaaDoorLawFnValid
import Derived.Test.YtfkagnpdapkaaaaDoorCards
import Derived.Test.YtfkagnpdapkaaaaDoorFactsC
namespace Go.Proofs.YtfkagnpdapkaaaaDoor
open Go
theorem fnValid_wfText : Rows.fnValidRow.wfByText (OpenSpec.ofChange Rows.fnValidSpec) = true := by kernel_rfl
theorem fnValid_goes : false = Rows.fnValidRow.goesBy Tryd.pinned.checked.prog := by kernel_rfl
theorem fnValid_named : Tryd.prog.funcNamed "loop.example/pub-g01526/laws.FnValid" = some 8 := by kernel_rfl
theorem fnValid_wants : ([22].all fun u => !Tryd.prog.wantsStandIn u) = true := by kernel_rfl
theorem fnValidCard_holds : Rows.FnValidCardSaid :=
  Claim7.holds_tied_plain_at .later [] [.data, .data, .pinned, .pinned, .pinned, .pinned, .pinned, .pinned] true (true, "cb39acbbe49c77861e49c2f8ae2c0da0037ad91f97c3cd174d401de374954090") true fnValid_holds (fun _ h => by cases h) fnValid_wfText (fun _ h => by cases h) fnValid_row_tie rfl ⟨rfl, rfl⟩ Facts.mainIs rfl
    (fun f fn hf hfn => by
      obtain rfl : f = 8 := Option.some.inj (fnValid_named.symm.trans hf) |>.symm
      obtain rfl : fn = Tryd.f8 := (Option.some.inj (Tryd.func8.symm.trans hfn)).symm
      exact ⟨Facts.looks, fun j t ht => by
        rw [Tryd.params8] at ht
        have hm : t ∈ [22] := by simpa using Array.mem_of_getElem? ht
        exact (show Tryd.prog.wantsStandIn t = false by simpa using List.all_eq_true.1 fnValid_wants t hm)⟩)
    fnValid_goes
#print axioms fnValidCard_holds
end Go.Proofs.YtfkagnpdapkaaaaDoor
