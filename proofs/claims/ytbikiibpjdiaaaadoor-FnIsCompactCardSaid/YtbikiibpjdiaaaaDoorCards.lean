/-
  DERIVED. GIVEN WITH THE SEED: THE CARDS: each row of YtbikiibpjdiaaaaDoorRows.lean that lists a variable, with what it lists TIED to the program's text (the seventh form; the later family's looks); each row that meets fmt, with fmt's text TOLD by the authors' own Lean function (tested against real Go, not proved from fmt's source: count such statements apart). THE CARD IS WHAT COUNTS. Prove the row's statement (the work); the ties are given (YtbikiibpjdiaaaaDoorTie.lean); close each card by the builder's one call (the guide's Derived/Test/ToyasCard.lean, 'card_holds'). Laid BY PROGRAM, IN A SANDBOX (cutbox-door.mjs). By AI agents, Wed Nov 11 2026. No macro, syntax, notation, axiom, sorry.
-/
import Derived.Test.YtbikiibpjdiaaaaDoorRows
import GoSem.ClaimSeven
namespace Go.Proofs.YtbikiibpjdiaaaaDoor
namespace Rows

/-- THE TIED CARD OF 'laws.FnCompact'. -/
def fnCompactCard : Claim7 := { stood := { row := fnCompactRow, standIns := [], harness := (true, "1037b42718e11e3170060af0ccec2b5733087d977aabe74401e34130f844f533"), looks := false }, kinds := [], alts := [], laidByText := true, laidKinds := [.data, .data, .pinned, .pinned, .pinned, .pinned, .pinned, .pinned], laidTests := true, laidLooks := .later }
def FnCompactCardSaid : Prop := Claim7.holds Tryd.pinned (.plain (OpenSpec.ofChange fnCompactSpec)) fnCompactCard

/-- THE TIED CARD OF 'laws.FnCompactTwice'. -/
def fnCompactTwiceCard : Claim7 := { stood := { row := fnCompactTwiceRow, standIns := [], harness := (true, "1037b42718e11e3170060af0ccec2b5733087d977aabe74401e34130f844f533"), looks := false }, kinds := [], alts := [], laidByText := true, laidKinds := [.data, .data, .pinned, .pinned, .pinned, .pinned, .pinned, .pinned], laidTests := true, laidLooks := .later }
def FnCompactTwiceCardSaid : Prop := Claim7.holds Tryd.pinned (.plain (OpenSpec.ofChange fnCompactTwiceSpec)) fnCompactTwiceCard

/-- THE TIED CARD OF 'laws.FnIsCompact'. -/
def fnIsCompactCard : Claim7 := { stood := { row := fnIsCompactRow, standIns := [], harness := (true, "1037b42718e11e3170060af0ccec2b5733087d977aabe74401e34130f844f533"), looks := false }, kinds := [], alts := [], laidByText := true, laidKinds := [.data, .data, .pinned, .pinned, .pinned, .pinned, .pinned, .pinned], laidTests := true, laidLooks := .later }
def FnIsCompactCardSaid : Prop := Claim7.holds Tryd.pinned (.plain (OpenSpec.ofChange fnIsCompactSpec)) fnIsCompactCard

/-- THE TIED CARD OF 'laws.FnCompactOutput'. -/
def fnCompactOutputCard : Claim7 := { stood := { row := fnCompactOutputRow, standIns := [], harness := (true, "1037b42718e11e3170060af0ccec2b5733087d977aabe74401e34130f844f533"), looks := false }, kinds := [], alts := [], laidByText := true, laidKinds := [.data, .data, .pinned, .pinned, .pinned, .pinned, .pinned, .pinned], laidTests := true, laidLooks := .later }
def FnCompactOutputCardSaid : Prop := Claim7.holds Tryd.pinned (.plain (OpenSpec.ofChange fnCompactOutputSpec)) fnCompactOutputCard

/-- THE TIED CARD OF 'laws.FnCompactByPass'. -/
def fnCompactByPassCard : Claim7 := { stood := { row := fnCompactByPassRow, standIns := [], harness := (true, "1037b42718e11e3170060af0ccec2b5733087d977aabe74401e34130f844f533"), looks := false }, kinds := [], alts := [], laidByText := true, laidKinds := [.data, .data, .pinned, .pinned, .pinned, .pinned, .pinned, .pinned], laidTests := true, laidLooks := .later }
def FnCompactByPassCardSaid : Prop := Claim7.holds Tryd.pinned (.plain (OpenSpec.ofChange fnCompactByPassSpec)) fnCompactByPassCard

/-- THE TIED CARD OF 'laws.FnIndent'. -/
def fnIndentCard : Claim7 := { stood := { row := fnIndentRow, standIns := [], harness := (true, "1037b42718e11e3170060af0ccec2b5733087d977aabe74401e34130f844f533"), looks := false }, kinds := [], alts := [], laidByText := true, laidKinds := [.data, .data, .pinned, .pinned, .pinned, .pinned, .pinned, .pinned], laidTests := true, laidLooks := .later }
def FnIndentCardSaid : Prop := Claim7.holds Tryd.pinned (.plain (OpenSpec.ofChange fnIndentSpec)) fnIndentCard

/-- THE TIED CARD OF 'laws.FnIndentKeeps'. -/
def fnIndentKeepsCard : Claim7 := { stood := { row := fnIndentKeepsRow, standIns := [], harness := (true, "1037b42718e11e3170060af0ccec2b5733087d977aabe74401e34130f844f533"), looks := false }, kinds := [], alts := [], laidByText := true, laidKinds := [.data, .data, .pinned, .pinned, .pinned, .pinned, .pinned, .pinned], laidTests := true, laidLooks := .later }
def FnIndentKeepsCardSaid : Prop := Claim7.holds Tryd.pinned (.plain (OpenSpec.ofChange fnIndentKeepsSpec)) fnIndentKeepsCard

/-- THE SECOND FORM's CARD OF 'laws.FnCompact'. -/
def fnCompactUptoCard : Claim7 := { stood := { row := fnCompactUptoRow, standIns := [], harness := (true, "1037b42718e11e3170060af0ccec2b5733087d977aabe74401e34130f844f533"), looks := false }, kinds := [], alts := [], laidByText := true, laidKinds := [.data, .data, .pinned, .pinned, .pinned, .pinned, .pinned, .pinned], laidTests := true, laidLooks := .later }
def FnCompactUptoCardSaid : Prop := Claim7.holds Tryd.pinned (.plain (OpenSpec.upto fnCompactSpec)) fnCompactUptoCard

/-- THE SECOND FORM's CARD OF 'laws.FnCompactTwice'. -/
def fnCompactTwiceUptoCard : Claim7 := { stood := { row := fnCompactTwiceUptoRow, standIns := [], harness := (true, "1037b42718e11e3170060af0ccec2b5733087d977aabe74401e34130f844f533"), looks := false }, kinds := [], alts := [], laidByText := true, laidKinds := [.data, .data, .pinned, .pinned, .pinned, .pinned, .pinned, .pinned], laidTests := true, laidLooks := .later }
def FnCompactTwiceUptoCardSaid : Prop := Claim7.holds Tryd.pinned (.plain (OpenSpec.upto fnCompactTwiceSpec)) fnCompactTwiceUptoCard

/-- THE SECOND FORM's CARD OF 'laws.FnIsCompact'. -/
def fnIsCompactUptoCard : Claim7 := { stood := { row := fnIsCompactUptoRow, standIns := [], harness := (true, "1037b42718e11e3170060af0ccec2b5733087d977aabe74401e34130f844f533"), looks := false }, kinds := [], alts := [], laidByText := true, laidKinds := [.data, .data, .pinned, .pinned, .pinned, .pinned, .pinned, .pinned], laidTests := true, laidLooks := .later }
def FnIsCompactUptoCardSaid : Prop := Claim7.holds Tryd.pinned (.plain (OpenSpec.upto fnIsCompactSpec)) fnIsCompactUptoCard

/-- THE SECOND FORM's CARD OF 'laws.FnCompactOutput'. -/
def fnCompactOutputUptoCard : Claim7 := { stood := { row := fnCompactOutputUptoRow, standIns := [], harness := (true, "1037b42718e11e3170060af0ccec2b5733087d977aabe74401e34130f844f533"), looks := false }, kinds := [], alts := [], laidByText := true, laidKinds := [.data, .data, .pinned, .pinned, .pinned, .pinned, .pinned, .pinned], laidTests := true, laidLooks := .later }
def FnCompactOutputUptoCardSaid : Prop := Claim7.holds Tryd.pinned (.plain (OpenSpec.upto fnCompactOutputSpec)) fnCompactOutputUptoCard

/-- THE SECOND FORM's CARD OF 'laws.FnCompactByPass'. -/
def fnCompactByPassUptoCard : Claim7 := { stood := { row := fnCompactByPassUptoRow, standIns := [], harness := (true, "1037b42718e11e3170060af0ccec2b5733087d977aabe74401e34130f844f533"), looks := false }, kinds := [], alts := [], laidByText := true, laidKinds := [.data, .data, .pinned, .pinned, .pinned, .pinned, .pinned, .pinned], laidTests := true, laidLooks := .later }
def FnCompactByPassUptoCardSaid : Prop := Claim7.holds Tryd.pinned (.plain (OpenSpec.upto fnCompactByPassSpec)) fnCompactByPassUptoCard

/-- THE SECOND FORM's CARD OF 'laws.FnIndent'. -/
def fnIndentUptoCard : Claim7 := { stood := { row := fnIndentUptoRow, standIns := [], harness := (true, "1037b42718e11e3170060af0ccec2b5733087d977aabe74401e34130f844f533"), looks := false }, kinds := [], alts := [], laidByText := true, laidKinds := [.data, .data, .pinned, .pinned, .pinned, .pinned, .pinned, .pinned], laidTests := true, laidLooks := .later }
def FnIndentUptoCardSaid : Prop := Claim7.holds Tryd.pinned (.plain (OpenSpec.upto fnIndentSpec)) fnIndentUptoCard

/-- THE SECOND FORM's CARD OF 'laws.FnIndentKeeps'. -/
def fnIndentKeepsUptoCard : Claim7 := { stood := { row := fnIndentKeepsUptoRow, standIns := [], harness := (true, "1037b42718e11e3170060af0ccec2b5733087d977aabe74401e34130f844f533"), looks := false }, kinds := [], alts := [], laidByText := true, laidKinds := [.data, .data, .pinned, .pinned, .pinned, .pinned, .pinned, .pinned], laidTests := true, laidLooks := .later }
def FnIndentKeepsUptoCardSaid : Prop := Claim7.holds Tryd.pinned (.plain (OpenSpec.upto fnIndentKeepsSpec)) fnIndentKeepsUptoCard
end Rows
end Go.Proofs.YtbikiibpjdiaaaaDoor
