/-
  DERIVED. GIVEN WITH THE SEED: THE CARDS: each row of YtemgofomhjabpaaGreatDoorRows.lean that lists a variable, with what it lists TIED to the program's text (the seventh form; the later family's looks); each row that meets fmt, with fmt's text TOLD by the authors' own Lean function (tested against real Go, not proved from fmt's source: count such statements apart). THE CARD IS WHAT COUNTS. Prove the row's statement (the work); the ties are given (YtemgofomhjabpaaGreatDoorTie.lean); close each card by the builder's one call (the guide's Derived/Test/ToyasCard.lean, 'card_holds'). Laid BY PROGRAM, IN A SANDBOX (cutbox-door.mjs). By AI agents, Wed Nov 11 2026. No macro, syntax, notation, axiom, sorry.
-/
import Derived.Test.YtemgofomhjabpaaGreatDoorRows
import GoSem.ClaimSeven
namespace Go.Proofs.YtemgofomhjabpaaGreatDoor
namespace Rows

/-- THE TIED CARD OF 'laws.FnList'. -/
def fnListCard : Claim7 := { stood := { row := fnListRow, standIns := [], harness := (true, "0c3a5d9680f74bee9bcbc38620b94ee099efe56a1d1f188a2da9699986ff60f1"), looks := true }, kinds := [], alts := [], laidByText := true, laidKinds := [.data, .pinned, .pinned], laidTests := true, laidLooks := .later }
def FnListCardSaid : Prop := Claim7.holds Tryz.pinned (.plain (OpenSpec.ofChange fnListSpec)) fnListCard

/-- THE TIED CARD OF 'laws.FnQuestion'. -/
def fnQuestionCard : Claim7 := { stood := { row := fnQuestionRow, standIns := [], harness := (true, "0c3a5d9680f74bee9bcbc38620b94ee099efe56a1d1f188a2da9699986ff60f1"), looks := true }, kinds := [], alts := [], laidByText := true, laidKinds := [.data, .pinned, .pinned], laidTests := true, laidLooks := .later }
def FnQuestionCardSaid : Prop := Claim7.holds Tryz.pinned (.plain (OpenSpec.ofChange fnQuestionSpec)) fnQuestionCard

/-- THE TIED CARD OF 'laws.FnRange'. -/
def fnRangeCard : Claim7 := { stood := { row := fnRangeRow, standIns := [], harness := (true, "0c3a5d9680f74bee9bcbc38620b94ee099efe56a1d1f188a2da9699986ff60f1"), looks := true }, kinds := [], alts := [], laidByText := true, laidKinds := [.data, .pinned, .pinned], laidTests := true, laidLooks := .later }
def FnRangeCardSaid : Prop := Claim7.holds Tryz.pinned (.plain (OpenSpec.ofChange fnRangeSpec)) fnRangeCard

/-- THE TIED CARD OF 'laws.FnSeconds'. -/
def fnSecondsCard : Claim7 := { stood := { row := fnSecondsRow, standIns := [], harness := (true, "0c3a5d9680f74bee9bcbc38620b94ee099efe56a1d1f188a2da9699986ff60f1"), looks := true }, kinds := [], alts := [], laidByText := true, laidKinds := [.data, .pinned, .pinned], laidTests := true, laidLooks := .later }
def FnSecondsCardSaid : Prop := Claim7.holds Tryz.pinned (.plain (OpenSpec.ofChange fnSecondsSpec)) fnSecondsCard

/-- THE TIED CARD OF 'laws.FnStep'. -/
def fnStepCard : Claim7 := { stood := { row := fnStepRow, standIns := [], harness := (true, "0c3a5d9680f74bee9bcbc38620b94ee099efe56a1d1f188a2da9699986ff60f1"), looks := true }, kinds := [], alts := [], laidByText := true, laidKinds := [.data, .pinned, .pinned], laidTests := true, laidLooks := .later }
def FnStepCardSaid : Prop := Claim7.holds Tryz.pinned (.plain (OpenSpec.ofChange fnStepSpec)) fnStepCard

/-- THE TIED CARD OF 'laws.FnStepRange'. -/
def fnStepRangeCard : Claim7 := { stood := { row := fnStepRangeRow, standIns := [], harness := (true, "0c3a5d9680f74bee9bcbc38620b94ee099efe56a1d1f188a2da9699986ff60f1"), looks := true }, kinds := [], alts := [], laidByText := true, laidKinds := [.data, .pinned, .pinned], laidTests := true, laidLooks := .later }
def FnStepRangeCardSaid : Prop := Claim7.holds Tryz.pinned (.plain (OpenSpec.ofChange fnStepRangeSpec)) fnStepRangeCard

/-- THE TIED CARD OF 'laws.FnYear'. -/
def fnYearCard : Claim7 := { stood := { row := fnYearRow, standIns := [], harness := (true, "0c3a5d9680f74bee9bcbc38620b94ee099efe56a1d1f188a2da9699986ff60f1"), looks := true }, kinds := [], alts := [], laidByText := true, laidKinds := [.data, .pinned, .pinned], laidTests := true, laidLooks := .later }
def FnYearCardSaid : Prop := Claim7.holds Tryz.pinned (.plain (OpenSpec.ofChange fnYearSpec)) fnYearCard

/-- THE TIED CARD OF 'laws.FnBatch'. -/
def fnBatchCard : Claim7 := { stood := { row := fnBatchRow, standIns := [], harness := (true, "0c3a5d9680f74bee9bcbc38620b94ee099efe56a1d1f188a2da9699986ff60f1"), looks := true }, kinds := [], alts := [], laidByText := true, laidKinds := [.data, .pinned, .pinned], laidTests := true, laidLooks := .later }
def FnBatchCardSaid : Prop := Claim7.holds Tryz.pinned (.plain (OpenSpec.ofChange fnBatchSpec)) fnBatchCard

/-- THE SECOND FORM's CARD OF 'laws.FnList'. -/
def fnListUptoCard : Claim7 := { stood := { row := fnListUptoRow, standIns := [], harness := (true, "0c3a5d9680f74bee9bcbc38620b94ee099efe56a1d1f188a2da9699986ff60f1"), looks := true }, kinds := [], alts := [], laidByText := true, laidKinds := [.data, .pinned, .pinned], laidTests := true, laidLooks := .later }
def FnListUptoCardSaid : Prop := Claim7.holds Tryz.pinned (.plain (OpenSpec.upto fnListSpec)) fnListUptoCard

/-- THE SECOND FORM's CARD OF 'laws.FnQuestion'. -/
def fnQuestionUptoCard : Claim7 := { stood := { row := fnQuestionUptoRow, standIns := [], harness := (true, "0c3a5d9680f74bee9bcbc38620b94ee099efe56a1d1f188a2da9699986ff60f1"), looks := true }, kinds := [], alts := [], laidByText := true, laidKinds := [.data, .pinned, .pinned], laidTests := true, laidLooks := .later }
def FnQuestionUptoCardSaid : Prop := Claim7.holds Tryz.pinned (.plain (OpenSpec.upto fnQuestionSpec)) fnQuestionUptoCard

/-- THE SECOND FORM's CARD OF 'laws.FnRange'. -/
def fnRangeUptoCard : Claim7 := { stood := { row := fnRangeUptoRow, standIns := [], harness := (true, "0c3a5d9680f74bee9bcbc38620b94ee099efe56a1d1f188a2da9699986ff60f1"), looks := true }, kinds := [], alts := [], laidByText := true, laidKinds := [.data, .pinned, .pinned], laidTests := true, laidLooks := .later }
def FnRangeUptoCardSaid : Prop := Claim7.holds Tryz.pinned (.plain (OpenSpec.upto fnRangeSpec)) fnRangeUptoCard

/-- THE SECOND FORM's CARD OF 'laws.FnSeconds'. -/
def fnSecondsUptoCard : Claim7 := { stood := { row := fnSecondsUptoRow, standIns := [], harness := (true, "0c3a5d9680f74bee9bcbc38620b94ee099efe56a1d1f188a2da9699986ff60f1"), looks := true }, kinds := [], alts := [], laidByText := true, laidKinds := [.data, .pinned, .pinned], laidTests := true, laidLooks := .later }
def FnSecondsUptoCardSaid : Prop := Claim7.holds Tryz.pinned (.plain (OpenSpec.upto fnSecondsSpec)) fnSecondsUptoCard

/-- THE SECOND FORM's CARD OF 'laws.FnStep'. -/
def fnStepUptoCard : Claim7 := { stood := { row := fnStepUptoRow, standIns := [], harness := (true, "0c3a5d9680f74bee9bcbc38620b94ee099efe56a1d1f188a2da9699986ff60f1"), looks := true }, kinds := [], alts := [], laidByText := true, laidKinds := [.data, .pinned, .pinned], laidTests := true, laidLooks := .later }
def FnStepUptoCardSaid : Prop := Claim7.holds Tryz.pinned (.plain (OpenSpec.upto fnStepSpec)) fnStepUptoCard

/-- THE SECOND FORM's CARD OF 'laws.FnStepRange'. -/
def fnStepRangeUptoCard : Claim7 := { stood := { row := fnStepRangeUptoRow, standIns := [], harness := (true, "0c3a5d9680f74bee9bcbc38620b94ee099efe56a1d1f188a2da9699986ff60f1"), looks := true }, kinds := [], alts := [], laidByText := true, laidKinds := [.data, .pinned, .pinned], laidTests := true, laidLooks := .later }
def FnStepRangeUptoCardSaid : Prop := Claim7.holds Tryz.pinned (.plain (OpenSpec.upto fnStepRangeSpec)) fnStepRangeUptoCard

/-- THE SECOND FORM's CARD OF 'laws.FnYear'. -/
def fnYearUptoCard : Claim7 := { stood := { row := fnYearUptoRow, standIns := [], harness := (true, "0c3a5d9680f74bee9bcbc38620b94ee099efe56a1d1f188a2da9699986ff60f1"), looks := true }, kinds := [], alts := [], laidByText := true, laidKinds := [.data, .pinned, .pinned], laidTests := true, laidLooks := .later }
def FnYearUptoCardSaid : Prop := Claim7.holds Tryz.pinned (.plain (OpenSpec.upto fnYearSpec)) fnYearUptoCard

/-- THE SECOND FORM's CARD OF 'laws.FnBatch'. -/
def fnBatchUptoCard : Claim7 := { stood := { row := fnBatchUptoRow, standIns := [], harness := (true, "0c3a5d9680f74bee9bcbc38620b94ee099efe56a1d1f188a2da9699986ff60f1"), looks := true }, kinds := [], alts := [], laidByText := true, laidKinds := [.data, .pinned, .pinned], laidTests := true, laidLooks := .later }
def FnBatchUptoCardSaid : Prop := Claim7.holds Tryz.pinned (.plain (OpenSpec.upto fnBatchSpec)) fnBatchUptoCard
end Rows
end Go.Proofs.YtemgofomhjabpaaGreatDoor
