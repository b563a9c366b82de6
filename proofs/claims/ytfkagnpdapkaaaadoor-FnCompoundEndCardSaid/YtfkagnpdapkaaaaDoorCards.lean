/-
  DERIVED. GIVEN WITH THE SEED: THE CARDS: each row of YtfkagnpdapkaaaaDoorRows.lean that lists a variable, with what it lists TIED to the program's text (the seventh form; the later family's looks); each row that meets fmt, with fmt's text TOLD by the authors' own Lean function (tested against real Go, not proved from fmt's source: count such statements apart). THE CARD IS WHAT COUNTS. Prove the row's statement (the work); the ties are given (YtfkagnpdapkaaaaDoorTie.lean); close each card by the builder's one call (the guide's Derived/Test/ToyasCard.lean, 'card_holds'). Laid BY PROGRAM, IN A SANDBOX (cutbox-door.mjs). By AI agents, Wed Nov 11 2026. No macro, syntax, notation, axiom, sorry.
-/
import Derived.Test.YtfkagnpdapkaaaaDoorRows
import GoSem.ClaimSeven
namespace Go.Proofs.YtfkagnpdapkaaaaDoor
namespace Rows

/-- THE TIED CARD OF 'laws.FnFaultStart'. -/
def fnFaultStartCard : Claim7 := { stood := { row := fnFaultStartRow, standIns := [], harness := (true, "cb39acbbe49c77861e49c2f8ae2c0da0037ad91f97c3cd174d401de374954090"), looks := true }, kinds := [], alts := [], laidByText := true, laidKinds := [.data, .data, .pinned, .pinned, .pinned, .pinned, .pinned, .pinned], laidTests := true, laidLooks := .later }
def FnFaultStartCardSaid : Prop := Claim7.holds Tryd.pinned (.plain (OpenSpec.ofChange fnFaultStartSpec)) fnFaultStartCard

/-- THE TIED CARD OF 'laws.FnMasks'. -/
def fnMasksCard : Claim7 := { stood := { row := fnMasksRow, standIns := [], harness := (true, "cb39acbbe49c77861e49c2f8ae2c0da0037ad91f97c3cd174d401de374954090"), looks := true }, kinds := [], alts := [], laidByText := true, laidKinds := [.data, .data, .pinned, .pinned, .pinned, .pinned, .pinned, .pinned], laidTests := true, laidLooks := .later }
def FnMasksCardSaid : Prop := Claim7.holds Tryd.pinned (.plain (OpenSpec.ofChange fnMasksSpec)) fnMasksCard

/-- THE TIED CARD OF 'laws.FnCompoundEnd'. -/
def fnCompoundEndCard : Claim7 := { stood := { row := fnCompoundEndRow, standIns := [], harness := (true, "cb39acbbe49c77861e49c2f8ae2c0da0037ad91f97c3cd174d401de374954090"), looks := true }, kinds := [], alts := [], laidByText := true, laidKinds := [.data, .data, .pinned, .pinned, .pinned, .pinned, .pinned, .pinned], laidTests := true, laidLooks := .later }
def FnCompoundEndCardSaid : Prop := Claim7.holds Tryd.pinned (.plain (OpenSpec.ofChange fnCompoundEndSpec)) fnCompoundEndCard

/-- THE TIED CARD OF 'laws.FnTextEnd'. -/
def fnTextEndCard : Claim7 := { stood := { row := fnTextEndRow, standIns := [], harness := (true, "cb39acbbe49c77861e49c2f8ae2c0da0037ad91f97c3cd174d401de374954090"), looks := true }, kinds := [], alts := [], laidByText := true, laidKinds := [.data, .data, .pinned, .pinned, .pinned, .pinned, .pinned, .pinned], laidTests := true, laidLooks := .later }
def FnTextEndCardSaid : Prop := Claim7.holds Tryd.pinned (.plain (OpenSpec.ofChange fnTextEndSpec)) fnTextEndCard

/-- THE TIED CARD OF 'laws.FnRestEnd'. -/
def fnRestEndCard : Claim7 := { stood := { row := fnRestEndRow, standIns := [], harness := (true, "cb39acbbe49c77861e49c2f8ae2c0da0037ad91f97c3cd174d401de374954090"), looks := true }, kinds := [], alts := [], laidByText := true, laidKinds := [.data, .data, .pinned, .pinned, .pinned, .pinned, .pinned, .pinned], laidTests := true, laidLooks := .later }
def FnRestEndCardSaid : Prop := Claim7.holds Tryd.pinned (.plain (OpenSpec.ofChange fnRestEndSpec)) fnRestEndCard

/-- THE TIED CARD OF 'laws.FnValid'. -/
def fnValidCard : Claim7 := { stood := { row := fnValidRow, standIns := [], harness := (true, "cb39acbbe49c77861e49c2f8ae2c0da0037ad91f97c3cd174d401de374954090"), looks := true }, kinds := [], alts := [], laidByText := true, laidKinds := [.data, .data, .pinned, .pinned, .pinned, .pinned, .pinned, .pinned], laidTests := true, laidLooks := .later }
def FnValidCardSaid : Prop := Claim7.holds Tryd.pinned (.plain (OpenSpec.ofChange fnValidSpec)) fnValidCard

/-- THE TIED CARD OF 'laws.FnValueEnd'. -/
def fnValueEndCard : Claim7 := { stood := { row := fnValueEndRow, standIns := [], harness := (true, "cb39acbbe49c77861e49c2f8ae2c0da0037ad91f97c3cd174d401de374954090"), looks := true }, kinds := [], alts := [], laidByText := true, laidKinds := [.data, .data, .pinned, .pinned, .pinned, .pinned, .pinned, .pinned], laidTests := true, laidLooks := .later }
def FnValueEndCardSaid : Prop := Claim7.holds Tryd.pinned (.plain (OpenSpec.ofChange fnValueEndSpec)) fnValueEndCard

/-- THE TIED CARD OF 'laws.FnValueEndBySteps'. -/
def fnValueEndByStepsCard : Claim7 := { stood := { row := fnValueEndByStepsRow, standIns := [], harness := (true, "cb39acbbe49c77861e49c2f8ae2c0da0037ad91f97c3cd174d401de374954090"), looks := true }, kinds := [], alts := [], laidByText := true, laidKinds := [.data, .data, .pinned, .pinned, .pinned, .pinned, .pinned, .pinned], laidTests := true, laidLooks := .later }
def FnValueEndByStepsCardSaid : Prop := Claim7.holds Tryd.pinned (.plain (OpenSpec.ofChange fnValueEndByStepsSpec)) fnValueEndByStepsCard

/-- THE TIED CARD OF 'laws.FnWaysAlike'. -/
def fnWaysAlikeCard : Claim7 := { stood := { row := fnWaysAlikeRow, standIns := [], harness := (true, "cb39acbbe49c77861e49c2f8ae2c0da0037ad91f97c3cd174d401de374954090"), looks := true }, kinds := [], alts := [], laidByText := true, laidKinds := [.data, .data, .pinned, .pinned, .pinned, .pinned, .pinned, .pinned], laidTests := true, laidLooks := .later }
def FnWaysAlikeCardSaid : Prop := Claim7.holds Tryd.pinned (.plain (OpenSpec.ofChange fnWaysAlikeSpec)) fnWaysAlikeCard

/-- THE TIED CARD OF 'laws.FnBlankEnd'. -/
def fnBlankEndCard : Claim7 := { stood := { row := fnBlankEndRow, standIns := [], harness := (true, "cb39acbbe49c77861e49c2f8ae2c0da0037ad91f97c3cd174d401de374954090"), looks := true }, kinds := [], alts := [], laidByText := true, laidKinds := [.data, .data, .pinned, .pinned, .pinned, .pinned, .pinned, .pinned], laidTests := true, laidLooks := .later }
def FnBlankEndCardSaid : Prop := Claim7.holds Tryd.pinned (.plain (OpenSpec.ofChange fnBlankEndSpec)) fnBlankEndCard

/-- THE TIED CARD OF 'laws.FnTextScanned'. -/
def fnTextScannedCard : Claim7 := { stood := { row := fnTextScannedRow, standIns := [], harness := (true, "cb39acbbe49c77861e49c2f8ae2c0da0037ad91f97c3cd174d401de374954090"), looks := true }, kinds := [], alts := [], laidByText := true, laidKinds := [.data, .data, .pinned, .pinned, .pinned, .pinned, .pinned, .pinned], laidTests := true, laidLooks := .later }
def FnTextScannedCardSaid : Prop := Claim7.holds Tryd.pinned (.plain (OpenSpec.ofChange fnTextScannedSpec)) fnTextScannedCard

/-- THE TIED CARD OF 'laws.FnBehind'. -/
def fnBehindCard : Claim7 := { stood := { row := fnBehindRow, standIns := [], harness := (true, "cb39acbbe49c77861e49c2f8ae2c0da0037ad91f97c3cd174d401de374954090"), looks := true }, kinds := [], alts := [], laidByText := true, laidKinds := [.data, .data, .pinned, .pinned, .pinned, .pinned, .pinned, .pinned], laidTests := true, laidLooks := .later }
def FnBehindCardSaid : Prop := Claim7.holds Tryd.pinned (.plain (OpenSpec.ofChange fnBehindSpec)) fnBehindCard

/-- THE TIED CARD OF 'laws.FnFault'. -/
def fnFaultCard : Claim7 := { stood := { row := fnFaultRow, standIns := [], harness := (true, "cb39acbbe49c77861e49c2f8ae2c0da0037ad91f97c3cd174d401de374954090"), looks := true }, kinds := [], alts := [], laidByText := true, laidKinds := [.data, .data, .pinned, .pinned, .pinned, .pinned, .pinned, .pinned], laidTests := true, laidLooks := .later }
def FnFaultCardSaid : Prop := Claim7.holds Tryd.pinned (.plain (OpenSpec.ofChange fnFaultSpec)) fnFaultCard

/-- THE TIED CARD OF 'laws.FnFaultWords'. -/
def fnFaultWordsCard : Claim7 := { stood := { row := fnFaultWordsRow, standIns := [], harness := (true, "cb39acbbe49c77861e49c2f8ae2c0da0037ad91f97c3cd174d401de374954090"), looks := true }, kinds := [], alts := [], laidByText := true, laidKinds := [.data, .data, .pinned, .pinned, .pinned, .pinned, .pinned, .pinned], laidTests := true, laidLooks := .later }
def FnFaultWordsCardSaid : Prop := Claim7.holds Tryd.pinned (.plain (OpenSpec.ofChange fnFaultWordsSpec)) fnFaultWordsCard

/-- THE TIED CARD OF 'laws.FnPlainEnd'. -/
def fnPlainEndCard : Claim7 := { stood := { row := fnPlainEndRow, standIns := [], harness := (true, "cb39acbbe49c77861e49c2f8ae2c0da0037ad91f97c3cd174d401de374954090"), looks := true }, kinds := [], alts := [], laidByText := true, laidKinds := [.data, .data, .pinned, .pinned, .pinned, .pinned, .pinned, .pinned], laidTests := true, laidLooks := .later }
def FnPlainEndCardSaid : Prop := Claim7.holds Tryd.pinned (.plain (OpenSpec.ofChange fnPlainEndSpec)) fnPlainEndCard

/-- THE TIED CARD OF 'laws.FnNumberPassed'. -/
def fnNumberPassedCard : Claim7 := { stood := { row := fnNumberPassedRow, standIns := [], harness := (true, "cb39acbbe49c77861e49c2f8ae2c0da0037ad91f97c3cd174d401de374954090"), looks := true }, kinds := [], alts := [], laidByText := true, laidKinds := [.data, .data, .pinned, .pinned, .pinned, .pinned, .pinned, .pinned], laidTests := true, laidLooks := .later }
def FnNumberPassedCardSaid : Prop := Claim7.holds Tryd.pinned (.plain (OpenSpec.ofChange fnNumberPassedSpec)) fnNumberPassedCard

/-- THE SECOND FORM's CARD OF 'laws.FnFaultStart'. -/
def fnFaultStartUptoCard : Claim7 := { stood := { row := fnFaultStartUptoRow, standIns := [], harness := (true, "cb39acbbe49c77861e49c2f8ae2c0da0037ad91f97c3cd174d401de374954090"), looks := true }, kinds := [], alts := [], laidByText := true, laidKinds := [.data, .data, .pinned, .pinned, .pinned, .pinned, .pinned, .pinned], laidTests := true, laidLooks := .later }
def FnFaultStartUptoCardSaid : Prop := Claim7.holds Tryd.pinned (.plain (OpenSpec.upto fnFaultStartSpec)) fnFaultStartUptoCard

/-- THE SECOND FORM's CARD OF 'laws.FnMasks'. -/
def fnMasksUptoCard : Claim7 := { stood := { row := fnMasksUptoRow, standIns := [], harness := (true, "cb39acbbe49c77861e49c2f8ae2c0da0037ad91f97c3cd174d401de374954090"), looks := true }, kinds := [], alts := [], laidByText := true, laidKinds := [.data, .data, .pinned, .pinned, .pinned, .pinned, .pinned, .pinned], laidTests := true, laidLooks := .later }
def FnMasksUptoCardSaid : Prop := Claim7.holds Tryd.pinned (.plain (OpenSpec.upto fnMasksSpec)) fnMasksUptoCard

/-- THE SECOND FORM's CARD OF 'laws.FnCompoundEnd'. -/
def fnCompoundEndUptoCard : Claim7 := { stood := { row := fnCompoundEndUptoRow, standIns := [], harness := (true, "cb39acbbe49c77861e49c2f8ae2c0da0037ad91f97c3cd174d401de374954090"), looks := true }, kinds := [], alts := [], laidByText := true, laidKinds := [.data, .data, .pinned, .pinned, .pinned, .pinned, .pinned, .pinned], laidTests := true, laidLooks := .later }
def FnCompoundEndUptoCardSaid : Prop := Claim7.holds Tryd.pinned (.plain (OpenSpec.upto fnCompoundEndSpec)) fnCompoundEndUptoCard

/-- THE SECOND FORM's CARD OF 'laws.FnTextEnd'. -/
def fnTextEndUptoCard : Claim7 := { stood := { row := fnTextEndUptoRow, standIns := [], harness := (true, "cb39acbbe49c77861e49c2f8ae2c0da0037ad91f97c3cd174d401de374954090"), looks := true }, kinds := [], alts := [], laidByText := true, laidKinds := [.data, .data, .pinned, .pinned, .pinned, .pinned, .pinned, .pinned], laidTests := true, laidLooks := .later }
def FnTextEndUptoCardSaid : Prop := Claim7.holds Tryd.pinned (.plain (OpenSpec.upto fnTextEndSpec)) fnTextEndUptoCard

/-- THE SECOND FORM's CARD OF 'laws.FnRestEnd'. -/
def fnRestEndUptoCard : Claim7 := { stood := { row := fnRestEndUptoRow, standIns := [], harness := (true, "cb39acbbe49c77861e49c2f8ae2c0da0037ad91f97c3cd174d401de374954090"), looks := true }, kinds := [], alts := [], laidByText := true, laidKinds := [.data, .data, .pinned, .pinned, .pinned, .pinned, .pinned, .pinned], laidTests := true, laidLooks := .later }
def FnRestEndUptoCardSaid : Prop := Claim7.holds Tryd.pinned (.plain (OpenSpec.upto fnRestEndSpec)) fnRestEndUptoCard

/-- THE SECOND FORM's CARD OF 'laws.FnValid'. -/
def fnValidUptoCard : Claim7 := { stood := { row := fnValidUptoRow, standIns := [], harness := (true, "cb39acbbe49c77861e49c2f8ae2c0da0037ad91f97c3cd174d401de374954090"), looks := true }, kinds := [], alts := [], laidByText := true, laidKinds := [.data, .data, .pinned, .pinned, .pinned, .pinned, .pinned, .pinned], laidTests := true, laidLooks := .later }
def FnValidUptoCardSaid : Prop := Claim7.holds Tryd.pinned (.plain (OpenSpec.upto fnValidSpec)) fnValidUptoCard

/-- THE SECOND FORM's CARD OF 'laws.FnValueEnd'. -/
def fnValueEndUptoCard : Claim7 := { stood := { row := fnValueEndUptoRow, standIns := [], harness := (true, "cb39acbbe49c77861e49c2f8ae2c0da0037ad91f97c3cd174d401de374954090"), looks := true }, kinds := [], alts := [], laidByText := true, laidKinds := [.data, .data, .pinned, .pinned, .pinned, .pinned, .pinned, .pinned], laidTests := true, laidLooks := .later }
def FnValueEndUptoCardSaid : Prop := Claim7.holds Tryd.pinned (.plain (OpenSpec.upto fnValueEndSpec)) fnValueEndUptoCard

/-- THE SECOND FORM's CARD OF 'laws.FnValueEndBySteps'. -/
def fnValueEndByStepsUptoCard : Claim7 := { stood := { row := fnValueEndByStepsUptoRow, standIns := [], harness := (true, "cb39acbbe49c77861e49c2f8ae2c0da0037ad91f97c3cd174d401de374954090"), looks := true }, kinds := [], alts := [], laidByText := true, laidKinds := [.data, .data, .pinned, .pinned, .pinned, .pinned, .pinned, .pinned], laidTests := true, laidLooks := .later }
def FnValueEndByStepsUptoCardSaid : Prop := Claim7.holds Tryd.pinned (.plain (OpenSpec.upto fnValueEndByStepsSpec)) fnValueEndByStepsUptoCard

/-- THE SECOND FORM's CARD OF 'laws.FnWaysAlike'. -/
def fnWaysAlikeUptoCard : Claim7 := { stood := { row := fnWaysAlikeUptoRow, standIns := [], harness := (true, "cb39acbbe49c77861e49c2f8ae2c0da0037ad91f97c3cd174d401de374954090"), looks := true }, kinds := [], alts := [], laidByText := true, laidKinds := [.data, .data, .pinned, .pinned, .pinned, .pinned, .pinned, .pinned], laidTests := true, laidLooks := .later }
def FnWaysAlikeUptoCardSaid : Prop := Claim7.holds Tryd.pinned (.plain (OpenSpec.upto fnWaysAlikeSpec)) fnWaysAlikeUptoCard

/-- THE SECOND FORM's CARD OF 'laws.FnBlankEnd'. -/
def fnBlankEndUptoCard : Claim7 := { stood := { row := fnBlankEndUptoRow, standIns := [], harness := (true, "cb39acbbe49c77861e49c2f8ae2c0da0037ad91f97c3cd174d401de374954090"), looks := true }, kinds := [], alts := [], laidByText := true, laidKinds := [.data, .data, .pinned, .pinned, .pinned, .pinned, .pinned, .pinned], laidTests := true, laidLooks := .later }
def FnBlankEndUptoCardSaid : Prop := Claim7.holds Tryd.pinned (.plain (OpenSpec.upto fnBlankEndSpec)) fnBlankEndUptoCard

/-- THE SECOND FORM's CARD OF 'laws.FnTextScanned'. -/
def fnTextScannedUptoCard : Claim7 := { stood := { row := fnTextScannedUptoRow, standIns := [], harness := (true, "cb39acbbe49c77861e49c2f8ae2c0da0037ad91f97c3cd174d401de374954090"), looks := true }, kinds := [], alts := [], laidByText := true, laidKinds := [.data, .data, .pinned, .pinned, .pinned, .pinned, .pinned, .pinned], laidTests := true, laidLooks := .later }
def FnTextScannedUptoCardSaid : Prop := Claim7.holds Tryd.pinned (.plain (OpenSpec.upto fnTextScannedSpec)) fnTextScannedUptoCard

/-- THE SECOND FORM's CARD OF 'laws.FnBehind'. -/
def fnBehindUptoCard : Claim7 := { stood := { row := fnBehindUptoRow, standIns := [], harness := (true, "cb39acbbe49c77861e49c2f8ae2c0da0037ad91f97c3cd174d401de374954090"), looks := true }, kinds := [], alts := [], laidByText := true, laidKinds := [.data, .data, .pinned, .pinned, .pinned, .pinned, .pinned, .pinned], laidTests := true, laidLooks := .later }
def FnBehindUptoCardSaid : Prop := Claim7.holds Tryd.pinned (.plain (OpenSpec.upto fnBehindSpec)) fnBehindUptoCard

/-- THE SECOND FORM's CARD OF 'laws.FnFault'. -/
def fnFaultUptoCard : Claim7 := { stood := { row := fnFaultUptoRow, standIns := [], harness := (true, "cb39acbbe49c77861e49c2f8ae2c0da0037ad91f97c3cd174d401de374954090"), looks := true }, kinds := [], alts := [], laidByText := true, laidKinds := [.data, .data, .pinned, .pinned, .pinned, .pinned, .pinned, .pinned], laidTests := true, laidLooks := .later }
def FnFaultUptoCardSaid : Prop := Claim7.holds Tryd.pinned (.plain (OpenSpec.upto fnFaultSpec)) fnFaultUptoCard

/-- THE SECOND FORM's CARD OF 'laws.FnFaultWords'. -/
def fnFaultWordsUptoCard : Claim7 := { stood := { row := fnFaultWordsUptoRow, standIns := [], harness := (true, "cb39acbbe49c77861e49c2f8ae2c0da0037ad91f97c3cd174d401de374954090"), looks := true }, kinds := [], alts := [], laidByText := true, laidKinds := [.data, .data, .pinned, .pinned, .pinned, .pinned, .pinned, .pinned], laidTests := true, laidLooks := .later }
def FnFaultWordsUptoCardSaid : Prop := Claim7.holds Tryd.pinned (.plain (OpenSpec.upto fnFaultWordsSpec)) fnFaultWordsUptoCard

/-- THE SECOND FORM's CARD OF 'laws.FnPlainEnd'. -/
def fnPlainEndUptoCard : Claim7 := { stood := { row := fnPlainEndUptoRow, standIns := [], harness := (true, "cb39acbbe49c77861e49c2f8ae2c0da0037ad91f97c3cd174d401de374954090"), looks := true }, kinds := [], alts := [], laidByText := true, laidKinds := [.data, .data, .pinned, .pinned, .pinned, .pinned, .pinned, .pinned], laidTests := true, laidLooks := .later }
def FnPlainEndUptoCardSaid : Prop := Claim7.holds Tryd.pinned (.plain (OpenSpec.upto fnPlainEndSpec)) fnPlainEndUptoCard

/-- THE SECOND FORM's CARD OF 'laws.FnNumberPassed'. -/
def fnNumberPassedUptoCard : Claim7 := { stood := { row := fnNumberPassedUptoRow, standIns := [], harness := (true, "cb39acbbe49c77861e49c2f8ae2c0da0037ad91f97c3cd174d401de374954090"), looks := true }, kinds := [], alts := [], laidByText := true, laidKinds := [.data, .data, .pinned, .pinned, .pinned, .pinned, .pinned, .pinned], laidTests := true, laidLooks := .later }
def FnNumberPassedUptoCardSaid : Prop := Claim7.holds Tryd.pinned (.plain (OpenSpec.upto fnNumberPassedSpec)) fnNumberPassedUptoCard
end Rows
end Go.Proofs.YtfkagnpdapkaaaaDoor
