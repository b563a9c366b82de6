/- FnPlainEnd: the tied card of the law, out of its row (YtfkagnpdapkaaaaDoorLawFnPlainEnd) and the given tie. -/
import Derived.Test.YtfkagnpdapkaaaaDoorLawFnPlainEnd
import Derived.Test.YtfkagnpdapkaaaaDoorCards
import Derived.Test.YtfkagnpdapkaaaaDoorFactsC
namespace Go.Proofs.YtfkagnpdapkaaaaDoor
open Go
theorem fnPlainEnd_wfText : Rows.fnPlainEndRow.wfByText (OpenSpec.ofChange Rows.fnPlainEndSpec) = true := by kernel_rfl
theorem fnPlainEnd_goes : false = Rows.fnPlainEndRow.goesBy Tryd.pinned.checked.prog := by kernel_rfl
theorem fnPlainEnd_named : Tryd.prog.funcNamed "loop.example/pub-g01526/laws.FnPlainEnd" = some 17 := by kernel_rfl
theorem fnPlainEnd_wants : ([22, 3].all fun u => !Tryd.prog.wantsStandIn u) = true := by kernel_rfl
theorem fnPlainEndCard_holds : Rows.FnPlainEndCardSaid :=
  Claim7.holds_tied_plain_at .later [] [.data, .data, .pinned, .pinned, .pinned, .pinned, .pinned, .pinned] true (true, "cb39acbbe49c77861e49c2f8ae2c0da0037ad91f97c3cd174d401de374954090") true fnPlainEnd_holds (fun _ h => by cases h) fnPlainEnd_wfText (fun _ h => by cases h) fnPlainEnd_row_tie rfl ⟨rfl, rfl⟩ Facts.mainIs rfl
    (fun f fn hf hfn => by
      obtain rfl : f = 17 := Option.some.inj (fnPlainEnd_named.symm.trans hf) |>.symm
      obtain rfl : fn = Tryd.f17 := (Option.some.inj (Tryd.func17.symm.trans hfn)).symm
      exact ⟨Facts.looks, fun j t ht => by
        rw [Tryd.params17] at ht
        have hm : t ∈ [22, 3] := by simpa using Array.mem_of_getElem? ht
        exact (show Tryd.prog.wantsStandIn t = false by simpa using List.all_eq_true.1 fnPlainEnd_wants t hm)⟩)
    fnPlainEnd_goes
#print axioms fnPlainEndCard_holds
end Go.Proofs.YtfkagnpdapkaaaaDoor
