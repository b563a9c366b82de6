/-
  DERIVED. GIVEN WITH THE SEED: THE CARDS: each row of YtoigokgechcaiaaDoorRows.lean that lists a variable, with what it lists TIED to the program's text (the seventh form; the later family's looks); each row that meets fmt, with fmt's text TOLD by the authors' own Lean function (tested against real Go, not proved from fmt's source: count such statements apart). THE CARD IS WHAT COUNTS. Prove the row's statement (the work); the ties are given (YtoigokgechcaiaaDoorTie.lean); close each card by the builder's one call (the guide's Derived/Test/ToyasCard.lean, 'card_holds'). Laid BY PROGRAM, IN A SANDBOX (cutbox-door.mjs). By AI agents, Wed Nov 11 2026. No macro, syntax, notation, axiom, sorry.
-/
import Derived.Test.YtoigokgechcaiaaDoorRows
import GoSem.ClaimSeven
namespace Go.Proofs.YtoigokgechcaiaaDoor
namespace Rows

/-- THE TIED CARD OF 'laws.FnDigitsEnd'. -/
def fnDigitsEndCard : Claim7 := { stood := { row := fnDigitsEndRow, standIns := [], harness := (true, "a48696a3295ffd7741e1bc8c6f595f30e731f28718377ba1825fc20d2c5ff8ff"), looks := false }, kinds := [], alts := [], laidByText := true, laidKinds := [.data], laidTests := true, laidLooks := .later }
def FnDigitsEndCardSaid : Prop := Claim7.holds Tryd.pinned (.plain (OpenSpec.ofChange fnDigitsEndSpec)) fnDigitsEndCard

/-- THE TIED CARD OF 'laws.FnIsNumber'. -/
def fnIsNumberCard : Claim7 := { stood := { row := fnIsNumberRow, standIns := [], harness := (true, "a48696a3295ffd7741e1bc8c6f595f30e731f28718377ba1825fc20d2c5ff8ff"), looks := false }, kinds := [], alts := [], laidByText := true, laidKinds := [.data], laidTests := true, laidLooks := .later }
def FnIsNumberCardSaid : Prop := Claim7.holds Tryd.pinned (.plain (OpenSpec.ofChange fnIsNumberSpec)) fnIsNumberCard

/-- THE TIED CARD OF 'laws.FnNumberScanned'. -/
def fnNumberScannedCard : Claim7 := { stood := { row := fnNumberScannedRow, standIns := [], harness := (true, "a48696a3295ffd7741e1bc8c6f595f30e731f28718377ba1825fc20d2c5ff8ff"), looks := false }, kinds := [], alts := [], laidByText := true, laidKinds := [.data], laidTests := true, laidLooks := .later }
def FnNumberScannedCardSaid : Prop := Claim7.holds Tryd.pinned (.plain (OpenSpec.ofChange fnNumberScannedSpec)) fnNumberScannedCard

/-- THE TIED CARD OF 'laws.FnNumberEnd'. -/
def fnNumberEndCard : Claim7 := { stood := { row := fnNumberEndRow, standIns := [], harness := (true, "a48696a3295ffd7741e1bc8c6f595f30e731f28718377ba1825fc20d2c5ff8ff"), looks := false }, kinds := [], alts := [], laidByText := true, laidKinds := [.data], laidTests := true, laidLooks := .later }
def FnNumberEndCardSaid : Prop := Claim7.holds Tryd.pinned (.plain (OpenSpec.ofChange fnNumberEndSpec)) fnNumberEndCard

/-- THE SECOND FORM's CARD OF 'laws.FnDigitsEnd'. -/
def fnDigitsEndUptoCard : Claim7 := { stood := { row := fnDigitsEndUptoRow, standIns := [], harness := (true, "a48696a3295ffd7741e1bc8c6f595f30e731f28718377ba1825fc20d2c5ff8ff"), looks := false }, kinds := [], alts := [], laidByText := true, laidKinds := [.data], laidTests := true, laidLooks := .later }
def FnDigitsEndUptoCardSaid : Prop := Claim7.holds Tryd.pinned (.plain (OpenSpec.upto fnDigitsEndSpec)) fnDigitsEndUptoCard

/-- THE SECOND FORM's CARD OF 'laws.FnIsNumber'. -/
def fnIsNumberUptoCard : Claim7 := { stood := { row := fnIsNumberUptoRow, standIns := [], harness := (true, "a48696a3295ffd7741e1bc8c6f595f30e731f28718377ba1825fc20d2c5ff8ff"), looks := false }, kinds := [], alts := [], laidByText := true, laidKinds := [.data], laidTests := true, laidLooks := .later }
def FnIsNumberUptoCardSaid : Prop := Claim7.holds Tryd.pinned (.plain (OpenSpec.upto fnIsNumberSpec)) fnIsNumberUptoCard

/-- THE SECOND FORM's CARD OF 'laws.FnNumberScanned'. -/
def fnNumberScannedUptoCard : Claim7 := { stood := { row := fnNumberScannedUptoRow, standIns := [], harness := (true, "a48696a3295ffd7741e1bc8c6f595f30e731f28718377ba1825fc20d2c5ff8ff"), looks := false }, kinds := [], alts := [], laidByText := true, laidKinds := [.data], laidTests := true, laidLooks := .later }
def FnNumberScannedUptoCardSaid : Prop := Claim7.holds Tryd.pinned (.plain (OpenSpec.upto fnNumberScannedSpec)) fnNumberScannedUptoCard

/-- THE SECOND FORM's CARD OF 'laws.FnNumberEnd'. -/
def fnNumberEndUptoCard : Claim7 := { stood := { row := fnNumberEndUptoRow, standIns := [], harness := (true, "a48696a3295ffd7741e1bc8c6f595f30e731f28718377ba1825fc20d2c5ff8ff"), looks := false }, kinds := [], alts := [], laidByText := true, laidKinds := [.data], laidTests := true, laidLooks := .later }
def FnNumberEndUptoCardSaid : Prop := Claim7.holds Tryd.pinned (.plain (OpenSpec.upto fnNumberEndSpec)) fnNumberEndUptoCard
end Rows
end Go.Proofs.YtoigokgechcaiaaDoor
