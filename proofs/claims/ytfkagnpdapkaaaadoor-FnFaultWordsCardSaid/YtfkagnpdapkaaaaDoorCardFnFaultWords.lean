/- FnFaultWords: the tied card of the law, out of its row (YtfkagnpdapkaaaaDoorLawFnFaultWords) and the given tie. -/
import Derived.Test.YtfkagnpdapkaaaaDoorLawFnFaultWords
import Derived.Test.YtfkagnpdapkaaaaDoorCards
import Derived.Test.YtfkagnpdapkaaaaDoorFactsC
namespace Go.Proofs.YtfkagnpdapkaaaaDoor
open Go
theorem fnFaultWords_wfText : Rows.fnFaultWordsRow.wfByText (OpenSpec.ofChange Rows.fnFaultWordsSpec) = true := by kernel_rfl
theorem fnFaultWords_goes : false = Rows.fnFaultWordsRow.goesBy Tryd.pinned.checked.prog := by kernel_rfl
theorem fnFaultWords_named : Tryd.prog.funcNamed "loop.example/pub-g01526/laws.FnFaultWords" = some 16 := by kernel_rfl
theorem fnFaultWords_wants : ([22].all fun u => !Tryd.prog.wantsStandIn u) = true := by kernel_rfl
theorem fnFaultWordsCard_holds : Rows.FnFaultWordsCardSaid :=
  Claim7.holds_tied_plain_at .later [] [.data, .data, .pinned, .pinned, .pinned, .pinned, .pinned, .pinned] true (true, "cb39acbbe49c77861e49c2f8ae2c0da0037ad91f97c3cd174d401de374954090") true fnFaultWords_holds (fun _ h => by cases h) fnFaultWords_wfText (fun _ h => by cases h) fnFaultWords_row_tie rfl ⟨rfl, rfl⟩ Facts.mainIs rfl
    (fun f fn hf hfn => by
      obtain rfl : f = 16 := Option.some.inj (fnFaultWords_named.symm.trans hf) |>.symm
      obtain rfl : fn = Tryd.f16 := (Option.some.inj (Tryd.func16.symm.trans hfn)).symm
      exact ⟨Facts.looks, fun j t ht => by
        rw [Tryd.params16] at ht
        have hm : t ∈ [22] := by simpa using Array.mem_of_getElem? ht
        exact (show Tryd.prog.wantsStandIn t = false by simpa using List.all_eq_true.1 fnFaultWords_wants t hm)⟩)
    fnFaultWords_goes
#print axioms fnFaultWordsCard_holds
end Go.Proofs.YtfkagnpdapkaaaaDoor
