/- FnFaultStart: the tied card of the law, out of its row (YtfkagnpdapkaaaaDoorLawFnFaultStart) and the given tie. -/
import Derived.Test.YtfkagnpdapkaaaaDoorLawFnFaultStart
import Derived.Test.YtfkagnpdapkaaaaDoorCards
import Derived.Test.YtfkagnpdapkaaaaDoorFactsC
namespace Go.Proofs.YtfkagnpdapkaaaaDoor
open Go
theorem fnFaultStart_wfText : Rows.fnFaultStartRow.wfByText (OpenSpec.ofChange Rows.fnFaultStartSpec) = true := by kernel_rfl
theorem fnFaultStart_goes : false = Rows.fnFaultStartRow.goesBy Tryd.pinned.checked.prog := by kernel_rfl
theorem fnFaultStart_named : Tryd.prog.funcNamed "loop.example/pub-g01526/laws.FnFaultStart" = some 3 := by kernel_rfl
theorem fnFaultStart_wants : ([22].all fun u => !Tryd.prog.wantsStandIn u) = true := by kernel_rfl
theorem fnFaultStartCard_holds : Rows.FnFaultStartCardSaid :=
  Claim7.holds_tied_plain_at .later [] [.data, .data, .pinned, .pinned, .pinned, .pinned, .pinned, .pinned] true (true, "cb39acbbe49c77861e49c2f8ae2c0da0037ad91f97c3cd174d401de374954090") true fnFaultStart_holds (fun _ h => by cases h) fnFaultStart_wfText (fun _ h => by cases h) fnFaultStart_row_tie rfl ⟨rfl, rfl⟩ Facts.mainIs rfl
    (fun f fn hf hfn => by
      obtain rfl : f = 3 := Option.some.inj (fnFaultStart_named.symm.trans hf) |>.symm
      obtain rfl : fn = Tryd.f3 := (Option.some.inj (Tryd.func3.symm.trans hfn)).symm
      exact ⟨Facts.looks, fun j t ht => by
        rw [Tryd.params3] at ht
        have hm : t ∈ [22] := by simpa using Array.mem_of_getElem? ht
        exact (show Tryd.prog.wantsStandIn t = false by simpa using List.all_eq_true.1 fnFaultStart_wants t hm)⟩)
    fnFaultStart_goes
#print axioms fnFaultStartCard_holds
end Go.Proofs.YtfkagnpdapkaaaaDoor
