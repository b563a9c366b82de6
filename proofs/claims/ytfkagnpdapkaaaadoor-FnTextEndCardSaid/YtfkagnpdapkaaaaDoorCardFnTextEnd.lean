/- FnTextEnd: the tied card of the law, out of its row (YtfkagnpdapkaaaaDoorLawFnTextEnd) and the given tie. -/
import Derived.Test.YtfkagnpdapkaaaaDoorLawFnTextEnd
import Derived.Test.YtfkagnpdapkaaaaDoorCards
import Derived.Test.YtfkagnpdapkaaaaDoorFactsC
namespace Go.Proofs.YtfkagnpdapkaaaaDoor
open Go
theorem fnTextEnd_wfText : Rows.fnTextEndRow.wfByText (OpenSpec.ofChange Rows.fnTextEndSpec) = true := by kernel_rfl
theorem fnTextEnd_goes : false = Rows.fnTextEndRow.goesBy Tryd.pinned.checked.prog := by kernel_rfl
theorem fnTextEnd_named : Tryd.prog.funcNamed "loop.example/pub-g01526/laws.FnTextEnd" = some 6 := by kernel_rfl
theorem fnTextEnd_wants : ([22, 3].all fun u => !Tryd.prog.wantsStandIn u) = true := by kernel_rfl
theorem fnTextEndCard_holds : Rows.FnTextEndCardSaid :=
  Claim7.holds_tied_plain_at .later [] [.data, .data, .pinned, .pinned, .pinned, .pinned, .pinned, .pinned] true (true, "cb39acbbe49c77861e49c2f8ae2c0da0037ad91f97c3cd174d401de374954090") true fnTextEnd_holds (fun _ h => by cases h) fnTextEnd_wfText (fun _ h => by cases h) fnTextEnd_row_tie rfl ⟨rfl, rfl⟩ Facts.mainIs rfl
    (fun f fn hf hfn => by
      obtain rfl : f = 6 := Option.some.inj (fnTextEnd_named.symm.trans hf) |>.symm
      obtain rfl : fn = Tryd.f6 := (Option.some.inj (Tryd.func6.symm.trans hfn)).symm
      exact ⟨Facts.looks, fun j t ht => by
        rw [Tryd.params6] at ht
        have hm : t ∈ [22, 3] := by simpa using Array.mem_of_getElem? ht
        exact (show Tryd.prog.wantsStandIn t = false by simpa using List.all_eq_true.1 fnTextEnd_wants t hm)⟩)
    fnTextEnd_goes
#print axioms fnTextEndCard_holds
end Go.Proofs.YtfkagnpdapkaaaaDoor
