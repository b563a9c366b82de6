/- FnFault: the tied card of the law, out of its row (YtfkagnpdapkaaaaDoorLawFnFault) and the given tie. -/
import Derived.Test.YtfkagnpdapkaaaaDoorLawFnFault
import Derived.Test.YtfkagnpdapkaaaaDoorCards
import Derived.Test.YtfkagnpdapkaaaaDoorFactsC
namespace Go.Proofs.YtfkagnpdapkaaaaDoor
open Go
theorem fnFault_wfText : Rows.fnFaultRow.wfByText (OpenSpec.ofChange Rows.fnFaultSpec) = true := by kernel_rfl
theorem fnFault_goes : false = Rows.fnFaultRow.goesBy Tryd.pinned.checked.prog := by kernel_rfl
theorem fnFault_named : Tryd.prog.funcNamed "loop.example/pub-g01526/laws.FnFault" = some 15 := by kernel_rfl
theorem fnFault_wants : ([22].all fun u => !Tryd.prog.wantsStandIn u) = true := by kernel_rfl
theorem fnFaultCard_holds : Rows.FnFaultCardSaid :=
  Claim7.holds_tied_plain_at .later [] [.data, .data, .pinned, .pinned, .pinned, .pinned, .pinned, .pinned] true (true, "cb39acbbe49c77861e49c2f8ae2c0da0037ad91f97c3cd174d401de374954090") true fnFault_holds (fun _ h => by cases h) fnFault_wfText (fun _ h => by cases h) fnFault_row_tie rfl ⟨rfl, rfl⟩ Facts.mainIs rfl
    (fun f fn hf hfn => by
      obtain rfl : f = 15 := Option.some.inj (fnFault_named.symm.trans hf) |>.symm
      obtain rfl : fn = Tryd.f15 := (Option.some.inj (Tryd.func15.symm.trans hfn)).symm
      exact ⟨Facts.looks, fun j t ht => by
        rw [Tryd.params15] at ht
        have hm : t ∈ [22] := by simpa using Array.mem_of_getElem? ht
        exact (show Tryd.prog.wantsStandIn t = false by simpa using List.all_eq_true.1 fnFault_wants t hm)⟩)
    fnFault_goes
#print axioms fnFaultCard_holds
end Go.Proofs.YtfkagnpdapkaaaaDoor
