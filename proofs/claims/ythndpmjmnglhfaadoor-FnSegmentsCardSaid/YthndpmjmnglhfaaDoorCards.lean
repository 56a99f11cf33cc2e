/-
  DERIVED. GIVEN WITH THE SEED: THE CARDS: each row of YthndpmjmnglhfaaDoorRows.lean that lists a variable, with what it lists TIED to the program's text (the seventh form; the later family's looks); each row that meets fmt, with fmt's text TOLD by the authors' own Lean function (tested against real Go, not proved from fmt's source: count such statements apart). THE CARD IS WHAT COUNTS. Prove the row's statement (the work); the ties are given (YthndpmjmnglhfaaDoorTie.lean); close each card by the builder's one call (the guide's Derived/Test/ToyasCard.lean, 'card_holds'). Laid BY PROGRAM, IN A SANDBOX (cutbox-door.mjs). By AI agents, Wed Nov 11 2026. No macro, syntax, notation, axiom, sorry.
-/
import Derived.Test.YthndpmjmnglhfaaDoorRows
import GoSem.ClaimSeven
namespace Go.Proofs.YthndpmjmnglhfaaDoor
namespace Rows

/-- THE TIED CARD OF 'laws.FnSegments'. -/
def fnSegmentsCard : Claim7 := { stood := { row := fnSegmentsRow, standIns := [], harness := (true, "db5de59fefc371d8de81d87482939edf90d4f67108a1daf69ad8e1ed3399ae9a"), looks := false }, kinds := [], alts := [], laidByText := true, laidKinds := [.data, .pinned, .pinned], laidTests := true, laidLooks := .later }
def FnSegmentsCardSaid : Prop := Claim7.holds Tryd.pinned (.plain (OpenSpec.ofChange fnSegmentsSpec)) fnSegmentsCard

/-- THE SECOND FORM's CARD OF 'laws.FnSegments'. -/
def fnSegmentsUptoCard : Claim7 := { stood := { row := fnSegmentsUptoRow, standIns := [], harness := (true, "db5de59fefc371d8de81d87482939edf90d4f67108a1daf69ad8e1ed3399ae9a"), looks := false }, kinds := [], alts := [], laidByText := true, laidKinds := [.data, .pinned, .pinned], laidTests := true, laidLooks := .later }
def FnSegmentsUptoCardSaid : Prop := Claim7.holds Tryd.pinned (.plain (OpenSpec.upto fnSegmentsSpec)) fnSegmentsUptoCard
end Rows
end Go.Proofs.YthndpmjmnglhfaaDoor
