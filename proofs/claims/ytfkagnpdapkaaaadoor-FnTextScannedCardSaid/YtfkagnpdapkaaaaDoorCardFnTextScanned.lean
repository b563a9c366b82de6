/- FnTextScanned: the tied card of the law, out of its row (YtfkagnpdapkaaaaDoorLawFnTextScanned) and the given tie. -/
import Derived.Test.YtfkagnpdapkaaaaDoorLawFnTextScanned
import Derived.Test.YtfkagnpdapkaaaaDoorCards
import Derived.Test.YtfkagnpdapkaaaaDoorFactsC
namespace Go.Proofs.YtfkagnpdapkaaaaDoor
open Go
theorem fnTextScanned_wfText : Rows.fnTextScannedRow.wfByText (OpenSpec.ofChange Rows.fnTextScannedSpec) = true := by kernel_rfl
theorem fnTextScanned_goes : false = Rows.fnTextScannedRow.goesBy Tryd.pinned.checked.prog := by kernel_rfl
theorem fnTextScanned_named : Tryd.prog.funcNamed "loop.example/pub-g01526/laws.FnTextScanned" = some 13 := by kernel_rfl
theorem fnTextScanned_wants : ([22, 3].all fun u => !Tryd.prog.wantsStandIn u) = true := by kernel_rfl
theorem fnTextScannedCard_holds : Rows.FnTextScannedCardSaid :=
  Claim7.holds_tied_plain_at .later [] [.data, .data, .pinned, .pinned, .pinned, .pinned, .pinned, .pinned] true (true, "cb39acbbe49c77861e49c2f8ae2c0da0037ad91f97c3cd174d401de374954090") true fnTextScanned_holds (fun _ h => by cases h) fnTextScanned_wfText (fun _ h => by cases h) fnTextScanned_row_tie rfl ⟨rfl, rfl⟩ Facts.mainIs rfl
    (fun f fn hf hfn => by
      obtain rfl : f = 13 := Option.some.inj (fnTextScanned_named.symm.trans hf) |>.symm
      obtain rfl : fn = Tryd.f13 := (Option.some.inj (Tryd.func13.symm.trans hfn)).symm
      exact ⟨Facts.looks, fun j t ht => by
        rw [Tryd.params13] at ht
        have hm : t ∈ [22, 3] := by simpa using Array.mem_of_getElem? ht
        exact (show Tryd.prog.wantsStandIn t = false by simpa using List.all_eq_true.1 fnTextScanned_wants t hm)⟩)
    fnTextScanned_goes
#print axioms fnTextScannedCard_holds
end Go.Proofs.YtfkagnpdapkaaaaDoor
