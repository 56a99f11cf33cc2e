/-
  DERIVED. GIVEN WITH THE SEED: THE CARDS: each row of YtkhgeonlohafgaaGreatDoorRows.lean that lists a variable, with what it lists TIED to the program's text (the seventh form; the later family's looks); each row that meets fmt, with fmt's text TOLD by the authors' own Lean function (tested against real Go, not proved from fmt's source: count such statements apart). THE CARD IS WHAT COUNTS. Prove the row's statement (the work); the ties are given (YtkhgeonlohafgaaGreatDoorTie.lean); close each card by the builder's one call (the guide's Derived/Test/ToyasCard.lean, 'card_holds'). Laid BY PROGRAM, IN A SANDBOX (cutbox-door.mjs). By AI agents, Wed Nov 11 2026. No macro, syntax, notation, axiom, sorry.
-/
import Derived.Test.YtkhgeonlohafgaaGreatDoorRows
import GoSem.ClaimSeven
namespace Go.Proofs.YtkhgeonlohafgaaGreatDoor
namespace Rows

/-- THE TIED CARD OF 'laws.FnBounds'. -/
def fnBoundsCard : Claim7 := { stood := { row := fnBoundsRow, standIns := [], harness := (true, "9d70b24e060c6b285a1afbfc40d6fe8cd1bf1394b3435d47604e2bd7d4a564c0"), looks := true }, kinds := [], alts := [], laidByText := true, laidKinds := [.data, .data, .data, .data, .sentinel, .sentinel, .pinned, .pinned], laidTests := true, laidLooks := .later }
def FnBoundsCardSaid : Prop := Claim7.holds Tryz.pinned (.plain (OpenSpec.ofChange fnBoundsSpec)) fnBoundsCard

/-- THE TIED CARD OF 'laws.FnValid'. -/
def fnValidCard : Claim7 := { stood := { row := fnValidRow, standIns := [], harness := (true, "9d70b24e060c6b285a1afbfc40d6fe8cd1bf1394b3435d47604e2bd7d4a564c0"), looks := true }, kinds := [], alts := [], laidByText := true, laidKinds := [.data, .data, .data, .data, .sentinel, .sentinel, .pinned, .pinned], laidTests := true, laidLooks := .later }
def FnValidCardSaid : Prop := Claim7.holds Tryz.pinned (.plain (OpenSpec.ofChange fnValidSpec)) fnValidCard

/-- THE TIED CARD OF 'laws.FnFew'. -/
def fnFewCard : Claim7 := { stood := { row := fnFewRow, standIns := [], harness := (true, "9d70b24e060c6b285a1afbfc40d6fe8cd1bf1394b3435d47604e2bd7d4a564c0"), looks := true }, kinds := [], alts := [], laidByText := true, laidKinds := [.data, .data, .data, .data, .sentinel, .sentinel, .pinned, .pinned], laidTests := true, laidLooks := .later }
def FnFewCardSaid : Prop := Claim7.holds Tryz.pinned (.plain (OpenSpec.ofChange fnFewSpec)) fnFewCard

/-- THE TIED CARD OF 'laws.FnDayNames'. -/
def fnDayNamesCard : Claim7 := { stood := { row := fnDayNamesRow, standIns := [], harness := (true, "9d70b24e060c6b285a1afbfc40d6fe8cd1bf1394b3435d47604e2bd7d4a564c0"), looks := true }, kinds := [], alts := [], laidByText := true, laidKinds := [.data, .pinned, .pinned], laidTests := true, laidLooks := .later }
def FnDayNamesCardSaid : Prop := Claim7.holds Tryz.pinned (.plain (OpenSpec.ofChange fnDayNamesSpec)) fnDayNamesCard

/-- THE TIED CARD OF 'laws.FnDue'. -/
def fnDueCard : Claim7 := { stood := { row := fnDueRow, standIns := [], harness := (true, "9d70b24e060c6b285a1afbfc40d6fe8cd1bf1394b3435d47604e2bd7d4a564c0"), looks := true }, kinds := [], alts := [], laidByText := true, laidKinds := [.data, .pinned, .pinned], laidTests := true, laidLooks := .later }
def FnDueCardSaid : Prop := Claim7.holds Tryz.pinned (.plain (OpenSpec.ofChange fnDueSpec)) fnDueCard

/-- THE TIED CARD OF 'laws.FnLastDay'. -/
def fnLastDayCard : Claim7 := { stood := { row := fnLastDayRow, standIns := [], harness := (true, "9d70b24e060c6b285a1afbfc40d6fe8cd1bf1394b3435d47604e2bd7d4a564c0"), looks := true }, kinds := [], alts := [], laidByText := true, laidKinds := [.data, .pinned, .pinned], laidTests := true, laidLooks := .later }
def FnLastDayCardSaid : Prop := Claim7.holds Tryz.pinned (.plain (OpenSpec.ofChange fnLastDaySpec)) fnLastDayCard

/-- THE TIED CARD OF 'laws.FnLastWeekday'. -/
def fnLastWeekdayCard : Claim7 := { stood := { row := fnLastWeekdayRow, standIns := [], harness := (true, "9d70b24e060c6b285a1afbfc40d6fe8cd1bf1394b3435d47604e2bd7d4a564c0"), looks := true }, kinds := [], alts := [], laidByText := true, laidKinds := [.data, .pinned, .pinned], laidTests := true, laidLooks := .later }
def FnLastWeekdayCardSaid : Prop := Claim7.holds Tryz.pinned (.plain (OpenSpec.ofChange fnLastWeekdaySpec)) fnLastWeekdayCard

/-- THE TIED CARD OF 'laws.FnList'. -/
def fnListCard : Claim7 := { stood := { row := fnListRow, standIns := [], harness := (true, "9d70b24e060c6b285a1afbfc40d6fe8cd1bf1394b3435d47604e2bd7d4a564c0"), looks := true }, kinds := [], alts := [], laidByText := true, laidKinds := [.data, .pinned, .pinned], laidTests := true, laidLooks := .later }
def FnListCardSaid : Prop := Claim7.holds Tryz.pinned (.plain (OpenSpec.ofChange fnListSpec)) fnListCard

/-- THE TIED CARD OF 'laws.FnMonthNames'. -/
def fnMonthNamesCard : Claim7 := { stood := { row := fnMonthNamesRow, standIns := [], harness := (true, "9d70b24e060c6b285a1afbfc40d6fe8cd1bf1394b3435d47604e2bd7d4a564c0"), looks := true }, kinds := [], alts := [], laidByText := true, laidKinds := [.data, .pinned, .pinned], laidTests := true, laidLooks := .later }
def FnMonthNamesCardSaid : Prop := Claim7.holds Tryz.pinned (.plain (OpenSpec.ofChange fnMonthNamesSpec)) fnMonthNamesCard

/-- THE SECOND FORM's CARD OF 'laws.FnBounds'. -/
def fnBoundsUptoCard : Claim7 := { stood := { row := fnBoundsUptoRow, standIns := [], harness := (true, "9d70b24e060c6b285a1afbfc40d6fe8cd1bf1394b3435d47604e2bd7d4a564c0"), looks := true }, kinds := [], alts := [], laidByText := true, laidKinds := [.data, .data, .data, .data, .sentinel, .sentinel, .pinned, .pinned], laidTests := true, laidLooks := .later }
def FnBoundsUptoCardSaid : Prop := Claim7.holds Tryz.pinned (.plain (OpenSpec.upto fnBoundsSpec)) fnBoundsUptoCard

/-- THE SECOND FORM's CARD OF 'laws.FnValid'. -/
def fnValidUptoCard : Claim7 := { stood := { row := fnValidUptoRow, standIns := [], harness := (true, "9d70b24e060c6b285a1afbfc40d6fe8cd1bf1394b3435d47604e2bd7d4a564c0"), looks := true }, kinds := [], alts := [], laidByText := true, laidKinds := [.data, .data, .data, .data, .sentinel, .sentinel, .pinned, .pinned], laidTests := true, laidLooks := .later }
def FnValidUptoCardSaid : Prop := Claim7.holds Tryz.pinned (.plain (OpenSpec.upto fnValidSpec)) fnValidUptoCard

/-- THE SECOND FORM's CARD OF 'laws.FnFew'. -/
def fnFewUptoCard : Claim7 := { stood := { row := fnFewUptoRow, standIns := [], harness := (true, "9d70b24e060c6b285a1afbfc40d6fe8cd1bf1394b3435d47604e2bd7d4a564c0"), looks := true }, kinds := [], alts := [], laidByText := true, laidKinds := [.data, .data, .data, .data, .sentinel, .sentinel, .pinned, .pinned], laidTests := true, laidLooks := .later }
def FnFewUptoCardSaid : Prop := Claim7.holds Tryz.pinned (.plain (OpenSpec.upto fnFewSpec)) fnFewUptoCard

/-- THE SECOND FORM's CARD OF 'laws.FnDayNames'. -/
def fnDayNamesUptoCard : Claim7 := { stood := { row := fnDayNamesUptoRow, standIns := [], harness := (true, "9d70b24e060c6b285a1afbfc40d6fe8cd1bf1394b3435d47604e2bd7d4a564c0"), looks := true }, kinds := [], alts := [], laidByText := true, laidKinds := [.data, .pinned, .pinned], laidTests := true, laidLooks := .later }
def FnDayNamesUptoCardSaid : Prop := Claim7.holds Tryz.pinned (.plain (OpenSpec.upto fnDayNamesSpec)) fnDayNamesUptoCard

/-- THE SECOND FORM's CARD OF 'laws.FnDue'. -/
def fnDueUptoCard : Claim7 := { stood := { row := fnDueUptoRow, standIns := [], harness := (true, "9d70b24e060c6b285a1afbfc40d6fe8cd1bf1394b3435d47604e2bd7d4a564c0"), looks := true }, kinds := [], alts := [], laidByText := true, laidKinds := [.data, .pinned, .pinned], laidTests := true, laidLooks := .later }
def FnDueUptoCardSaid : Prop := Claim7.holds Tryz.pinned (.plain (OpenSpec.upto fnDueSpec)) fnDueUptoCard

/-- THE SECOND FORM's CARD OF 'laws.FnLastDay'. -/
def fnLastDayUptoCard : Claim7 := { stood := { row := fnLastDayUptoRow, standIns := [], harness := (true, "9d70b24e060c6b285a1afbfc40d6fe8cd1bf1394b3435d47604e2bd7d4a564c0"), looks := true }, kinds := [], alts := [], laidByText := true, laidKinds := [.data, .pinned, .pinned], laidTests := true, laidLooks := .later }
def FnLastDayUptoCardSaid : Prop := Claim7.holds Tryz.pinned (.plain (OpenSpec.upto fnLastDaySpec)) fnLastDayUptoCard

/-- THE SECOND FORM's CARD OF 'laws.FnLastWeekday'. -/
def fnLastWeekdayUptoCard : Claim7 := { stood := { row := fnLastWeekdayUptoRow, standIns := [], harness := (true, "9d70b24e060c6b285a1afbfc40d6fe8cd1bf1394b3435d47604e2bd7d4a564c0"), looks := true }, kinds := [], alts := [], laidByText := true, laidKinds := [.data, .pinned, .pinned], laidTests := true, laidLooks := .later }
def FnLastWeekdayUptoCardSaid : Prop := Claim7.holds Tryz.pinned (.plain (OpenSpec.upto fnLastWeekdaySpec)) fnLastWeekdayUptoCard

/-- THE SECOND FORM's CARD OF 'laws.FnList'. -/
def fnListUptoCard : Claim7 := { stood := { row := fnListUptoRow, standIns := [], harness := (true, "9d70b24e060c6b285a1afbfc40d6fe8cd1bf1394b3435d47604e2bd7d4a564c0"), looks := true }, kinds := [], alts := [], laidByText := true, laidKinds := [.data, .pinned, .pinned], laidTests := true, laidLooks := .later }
def FnListUptoCardSaid : Prop := Claim7.holds Tryz.pinned (.plain (OpenSpec.upto fnListSpec)) fnListUptoCard

/-- THE SECOND FORM's CARD OF 'laws.FnMonthNames'. -/
def fnMonthNamesUptoCard : Claim7 := { stood := { row := fnMonthNamesUptoRow, standIns := [], harness := (true, "9d70b24e060c6b285a1afbfc40d6fe8cd1bf1394b3435d47604e2bd7d4a564c0"), looks := true }, kinds := [], alts := [], laidByText := true, laidKinds := [.data, .pinned, .pinned], laidTests := true, laidLooks := .later }
def FnMonthNamesUptoCardSaid : Prop := Claim7.holds Tryz.pinned (.plain (OpenSpec.upto fnMonthNamesSpec)) fnMonthNamesUptoCard
end Rows
end Go.Proofs.YtkhgeonlohafgaaGreatDoor
