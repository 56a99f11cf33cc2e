/-
  NARROWER THAN 'FOR EVERY INPUT', by the rows' own cells (each row's printed sentence says how): FnList: laid · FnQuestion: laid · FnRange: laid · FnSeconds: laid · FnStep: laid · FnStepRange: laid · FnYear: laid · FnBatch: laid.
  DERIVED. THE GIVEN ROWS OF THIS SEAT. 8 by the template 'for every input the law returns true; each argument reads behind the call as it read before'; 0 by the template 'total and deterministic' (their statements: YtemgofomhjabpaaGreatDoorTotals.lean).
  GIVEN WITH THE SEED: the statements are not yours to turn. If you find one false, say at which input.
  Laid BY PROGRAM, IN A SANDBOX (cutbox-rows.mjs): the forced cells as the released guide's own fill.sh prints them over the translation 2f52fd76b1366e00… (all of the seat's roots in one cut). By AI agents, Wed Nov 11 2026. No macro, syntax, notation, axiom, sorry.
-/
import Derived.Test.YtemgofomhjabpaaGreatDoorChecked
import GoSem.PinnedTables
import GoSem.Claim
import GoSem.ClaimJoined
import GoSem.ClaimMapViews
import Derived.JoinedTies
import Derived.KernelRfl
namespace Go.Proofs.YtemgofomhjabpaaGreatDoor
/- THE CELL 'sum', in the pinned program and in every row, IS THE sha256 OF THE DUMP (.gsa) THAT YtemgofomhjabpaaGreatDoorProg.lean LOADS. Nothing in Lean hashes anything: it is a label: what it is worth is what the hold of that sum in a sandbox is worth. -/
noncomputable def Tryz.pinned : Pinned := { name := "ytemgofomhjabpaagreatdoor", sum := "2f52fd76b1366e0055ce314214370db58381d3c457c3993a1cb6e6541f81ba10", checked := Tryz.checked }
namespace Rows
def none {H : Type} : Left H := { results := [], args := [] }

/- WHAT THE LISTED PACKAGE-LEVEL VARIABLES READ AS WHEN THE CALL BEGINS. Each datum BY PROGRAM (the guide's laid-datum.mjs) off the statement by which the dump's own 'gosem.cut.vars' lays the variable. In a bare row this is a premise. The card (YtemgofomhjabpaaGreatDoorCards.lean) ties it to the program's text. -/
def laid_unicode_utf8_acceptRanges {H : Type} : DataW H := .agg [.agg [.lit (.int .u8 128), .lit (.int .u8 191)], .agg [.lit (.int .u8 160), .lit (.int .u8 191)], .agg [.lit (.int .u8 128), .lit (.int .u8 159)], .agg [.lit (.int .u8 144), .lit (.int .u8 191)], .agg [.lit (.int .u8 128), .lit (.int .u8 143)], .agg [.lit (.int .u8 0), .lit (.int .u8 0)], .agg [.lit (.int .u8 0), .lit (.int .u8 0)], .agg [.lit (.int .u8 0), .lit (.int .u8 0)], .agg [.lit (.int .u8 0), .lit (.int .u8 0)], .agg [.lit (.int .u8 0), .lit (.int .u8 0)], .agg [.lit (.int .u8 0), .lit (.int .u8 0)], .agg [.lit (.int .u8 0), .lit (.int .u8 0)], .agg [.lit (.int .u8 0), .lit (.int .u8 0)], .agg [.lit (.int .u8 0), .lit (.int .u8 0)], .agg [.lit (.int .u8 0), .lit (.int .u8 0)], .agg [.lit (.int .u8 0), .lit (.int .u8 0)]]
/-- One of Go's own tables, pinned by name: the form's constant. -/
def laid_unicode_CaseRanges : DataW Unit := Go.Pinned.caseRanges
/-- One of Go's own tables, pinned by name: the form's constant. -/
def laid_unicode_utf8_first : DataW Unit := Go.Pinned.utf8First

/-- 'laws.FnList': WHATEVER THE INPUT: true; the input reads as it did. -/
def fnListSpec : ChangeSpec := { name := "fnList", fn := fun _ => fun
  | [d1, d2, d3] => { results := [.lit (.bool true)], args := [d1, d2, d3] }
  | _ => none }
def fnListRow : OpenClaim := { program := "ytemgofomhjabpaagreatdoor", sum := "2f52fd76b1366e0055ce314214370db58381d3c457c3993a1cb6e6541f81ba10", func := "loop.example/pub-ticksofcron/laws.FnList", spec := "fnList", inPlace := ["internal/abi.NoEscape", "internal/bytealg.MakeNoZero"], unfollowed := true, recurses := true, named := ["unicode/utf8.first", "unicode/utf8.acceptRanges", "unicode.CaseRanges"], apart := false, laid := [("unicode/utf8.acceptRanges", laid_unicode_utf8_acceptRanges), ("unicode.CaseRanges", laid_unicode_CaseRanges), ("unicode/utf8.first", laid_unicode_utf8_first)] }
def FnListSaid : Prop := fnListRow.holds Tryz.pinned (OpenSpec.ofChange fnListSpec)

/-- ITS FALSE NEIGHBOUR: 'it returns false'. Refute it at one input. -/
def fnListWrong : ChangeSpec := { name := "fnList", fn := fun _ => fun
  | [d1, d2, d3] => { results := [.lit (.bool false)], args := [d1, d2, d3] }
  | _ => none }
def FnListWrongFalsely : Prop := fnListRow.holds Tryz.pinned (OpenSpec.ofChange fnListWrong)

/-- 'laws.FnQuestion': WHATEVER THE INPUT: true; the input reads as it did. -/
def fnQuestionSpec : ChangeSpec := { name := "fnQuestion", fn := fun _ => fun
  | [d1, d2] => { results := [.lit (.bool true)], args := [d1, d2] }
  | _ => none }
def fnQuestionRow : OpenClaim := { program := "ytemgofomhjabpaagreatdoor", sum := "2f52fd76b1366e0055ce314214370db58381d3c457c3993a1cb6e6541f81ba10", func := "loop.example/pub-ticksofcron/laws.FnQuestion", spec := "fnQuestion", inPlace := ["internal/abi.NoEscape", "internal/bytealg.MakeNoZero"], unfollowed := true, recurses := true, named := ["unicode/utf8.first", "unicode/utf8.acceptRanges", "unicode.CaseRanges"], apart := false, laid := [("unicode/utf8.acceptRanges", laid_unicode_utf8_acceptRanges), ("unicode.CaseRanges", laid_unicode_CaseRanges), ("unicode/utf8.first", laid_unicode_utf8_first)] }
def FnQuestionSaid : Prop := fnQuestionRow.holds Tryz.pinned (OpenSpec.ofChange fnQuestionSpec)

/-- ITS FALSE NEIGHBOUR: 'it returns false'. Refute it at one input. -/
def fnQuestionWrong : ChangeSpec := { name := "fnQuestion", fn := fun _ => fun
  | [d1, d2] => { results := [.lit (.bool false)], args := [d1, d2] }
  | _ => none }
def FnQuestionWrongFalsely : Prop := fnQuestionRow.holds Tryz.pinned (OpenSpec.ofChange fnQuestionWrong)

/-- 'laws.FnRange': WHATEVER THE INPUT: true; the input reads as it did. -/
def fnRangeSpec : ChangeSpec := { name := "fnRange", fn := fun _ => fun
  | [d1, d2, d3, d4] => { results := [.lit (.bool true)], args := [d1, d2, d3, d4] }
  | _ => none }
def fnRangeRow : OpenClaim := { program := "ytemgofomhjabpaagreatdoor", sum := "2f52fd76b1366e0055ce314214370db58381d3c457c3993a1cb6e6541f81ba10", func := "loop.example/pub-ticksofcron/laws.FnRange", spec := "fnRange", inPlace := ["internal/abi.NoEscape", "internal/bytealg.MakeNoZero"], unfollowed := true, recurses := true, named := ["unicode/utf8.first", "unicode/utf8.acceptRanges", "unicode.CaseRanges"], apart := false, laid := [("unicode/utf8.acceptRanges", laid_unicode_utf8_acceptRanges), ("unicode.CaseRanges", laid_unicode_CaseRanges), ("unicode/utf8.first", laid_unicode_utf8_first)] }
def FnRangeSaid : Prop := fnRangeRow.holds Tryz.pinned (OpenSpec.ofChange fnRangeSpec)

/-- ITS FALSE NEIGHBOUR: 'it returns false'. Refute it at one input. -/
def fnRangeWrong : ChangeSpec := { name := "fnRange", fn := fun _ => fun
  | [d1, d2, d3, d4] => { results := [.lit (.bool false)], args := [d1, d2, d3, d4] }
  | _ => none }
def FnRangeWrongFalsely : Prop := fnRangeRow.holds Tryz.pinned (OpenSpec.ofChange fnRangeWrong)

/-- 'laws.FnSeconds': WHATEVER THE INPUT: true; the input reads as it did. -/
def fnSecondsSpec : ChangeSpec := { name := "fnSeconds", fn := fun _ => fun
  | [d1, d2] => { results := [.lit (.bool true)], args := [d1, d2] }
  | _ => none }
def fnSecondsRow : OpenClaim := { program := "ytemgofomhjabpaagreatdoor", sum := "2f52fd76b1366e0055ce314214370db58381d3c457c3993a1cb6e6541f81ba10", func := "loop.example/pub-ticksofcron/laws.FnSeconds", spec := "fnSeconds", inPlace := ["internal/abi.NoEscape", "internal/bytealg.MakeNoZero"], unfollowed := true, recurses := true, named := ["unicode/utf8.first", "unicode/utf8.acceptRanges", "unicode.CaseRanges"], apart := false, laid := [("unicode/utf8.acceptRanges", laid_unicode_utf8_acceptRanges), ("unicode.CaseRanges", laid_unicode_CaseRanges), ("unicode/utf8.first", laid_unicode_utf8_first)] }
def FnSecondsSaid : Prop := fnSecondsRow.holds Tryz.pinned (OpenSpec.ofChange fnSecondsSpec)

/-- ITS FALSE NEIGHBOUR: 'it returns false'. Refute it at one input. -/
def fnSecondsWrong : ChangeSpec := { name := "fnSeconds", fn := fun _ => fun
  | [d1, d2] => { results := [.lit (.bool false)], args := [d1, d2] }
  | _ => none }
def FnSecondsWrongFalsely : Prop := fnSecondsRow.holds Tryz.pinned (OpenSpec.ofChange fnSecondsWrong)

/-- 'laws.FnStep': WHATEVER THE INPUT: true; the input reads as it did. -/
def fnStepSpec : ChangeSpec := { name := "fnStep", fn := fun _ => fun
  | [d1, d2, d3] => { results := [.lit (.bool true)], args := [d1, d2, d3] }
  | _ => none }
def fnStepRow : OpenClaim := { program := "ytemgofomhjabpaagreatdoor", sum := "2f52fd76b1366e0055ce314214370db58381d3c457c3993a1cb6e6541f81ba10", func := "loop.example/pub-ticksofcron/laws.FnStep", spec := "fnStep", inPlace := ["internal/abi.NoEscape", "internal/bytealg.MakeNoZero"], unfollowed := true, recurses := true, named := ["unicode/utf8.first", "unicode/utf8.acceptRanges", "unicode.CaseRanges"], apart := false, laid := [("unicode/utf8.acceptRanges", laid_unicode_utf8_acceptRanges), ("unicode.CaseRanges", laid_unicode_CaseRanges), ("unicode/utf8.first", laid_unicode_utf8_first)] }
def FnStepSaid : Prop := fnStepRow.holds Tryz.pinned (OpenSpec.ofChange fnStepSpec)

/-- ITS FALSE NEIGHBOUR: 'it returns false'. Refute it at one input. -/
def fnStepWrong : ChangeSpec := { name := "fnStep", fn := fun _ => fun
  | [d1, d2, d3] => { results := [.lit (.bool false)], args := [d1, d2, d3] }
  | _ => none }
def FnStepWrongFalsely : Prop := fnStepRow.holds Tryz.pinned (OpenSpec.ofChange fnStepWrong)

/-- 'laws.FnStepRange': WHATEVER THE INPUT: true; the input reads as it did. -/
def fnStepRangeSpec : ChangeSpec := { name := "fnStepRange", fn := fun _ => fun
  | [d1, d2, d3, d4, d5] => { results := [.lit (.bool true)], args := [d1, d2, d3, d4, d5] }
  | _ => none }
def fnStepRangeRow : OpenClaim := { program := "ytemgofomhjabpaagreatdoor", sum := "2f52fd76b1366e0055ce314214370db58381d3c457c3993a1cb6e6541f81ba10", func := "loop.example/pub-ticksofcron/laws.FnStepRange", spec := "fnStepRange", inPlace := ["internal/abi.NoEscape", "internal/bytealg.MakeNoZero"], unfollowed := true, recurses := true, named := ["unicode/utf8.first", "unicode/utf8.acceptRanges", "unicode.CaseRanges"], apart := false, laid := [("unicode/utf8.acceptRanges", laid_unicode_utf8_acceptRanges), ("unicode.CaseRanges", laid_unicode_CaseRanges), ("unicode/utf8.first", laid_unicode_utf8_first)] }
def FnStepRangeSaid : Prop := fnStepRangeRow.holds Tryz.pinned (OpenSpec.ofChange fnStepRangeSpec)

/-- ITS FALSE NEIGHBOUR: 'it returns false'. Refute it at one input. -/
def fnStepRangeWrong : ChangeSpec := { name := "fnStepRange", fn := fun _ => fun
  | [d1, d2, d3, d4, d5] => { results := [.lit (.bool false)], args := [d1, d2, d3, d4, d5] }
  | _ => none }
def FnStepRangeWrongFalsely : Prop := fnStepRangeRow.holds Tryz.pinned (OpenSpec.ofChange fnStepRangeWrong)

/-- 'laws.FnYear': WHATEVER THE INPUT: true; the input reads as it did. -/
def fnYearSpec : ChangeSpec := { name := "fnYear", fn := fun _ => fun
  | [d1, d2, d3] => { results := [.lit (.bool true)], args := [d1, d2, d3] }
  | _ => none }
def fnYearRow : OpenClaim := { program := "ytemgofomhjabpaagreatdoor", sum := "2f52fd76b1366e0055ce314214370db58381d3c457c3993a1cb6e6541f81ba10", func := "loop.example/pub-ticksofcron/laws.FnYear", spec := "fnYear", inPlace := ["internal/abi.NoEscape", "internal/bytealg.MakeNoZero"], unfollowed := true, recurses := true, named := ["unicode/utf8.first", "unicode/utf8.acceptRanges", "unicode.CaseRanges"], apart := false, laid := [("unicode/utf8.acceptRanges", laid_unicode_utf8_acceptRanges), ("unicode.CaseRanges", laid_unicode_CaseRanges), ("unicode/utf8.first", laid_unicode_utf8_first)] }
def FnYearSaid : Prop := fnYearRow.holds Tryz.pinned (OpenSpec.ofChange fnYearSpec)

/-- ITS FALSE NEIGHBOUR: 'it returns false'. Refute it at one input. -/
def fnYearWrong : ChangeSpec := { name := "fnYear", fn := fun _ => fun
  | [d1, d2, d3] => { results := [.lit (.bool false)], args := [d1, d2, d3] }
  | _ => none }
def FnYearWrongFalsely : Prop := fnYearRow.holds Tryz.pinned (OpenSpec.ofChange fnYearWrong)

/-- 'laws.FnBatch': WHATEVER THE INPUT: true; the input reads as it did. -/
def fnBatchSpec : ChangeSpec := { name := "fnBatch", fn := fun _ => fun
  | [d1, d2] => { results := [.lit (.bool true)], args := [d1, d2] }
  | _ => none }
def fnBatchRow : OpenClaim := { program := "ytemgofomhjabpaagreatdoor", sum := "2f52fd76b1366e0055ce314214370db58381d3c457c3993a1cb6e6541f81ba10", func := "loop.example/pub-ticksofcron/laws.FnBatch", spec := "fnBatch", inPlace := ["internal/abi.NoEscape", "internal/bytealg.MakeNoZero"], unfollowed := true, recurses := true, named := ["unicode/utf8.first", "unicode/utf8.acceptRanges", "unicode.CaseRanges"], apart := false, laid := [("unicode/utf8.acceptRanges", laid_unicode_utf8_acceptRanges), ("unicode.CaseRanges", laid_unicode_CaseRanges), ("unicode/utf8.first", laid_unicode_utf8_first)] }
def FnBatchSaid : Prop := fnBatchRow.holds Tryz.pinned (OpenSpec.ofChange fnBatchSpec)

/-- ITS FALSE NEIGHBOUR: 'it returns false'. Refute it at one input. -/
def fnBatchWrong : ChangeSpec := { name := "fnBatch", fn := fun _ => fun
  | [d1, d2] => { results := [.lit (.bool false)], args := [d1, d2] }
  | _ => none }
def FnBatchWrongFalsely : Prop := fnBatchRow.holds Tryz.pinned (OpenSpec.ofChange fnBatchWrong)

/- THE SECOND FORM. 'bulk': how many values and letters a reading holds, each counted each time it is reached (what is shared counts as often as it is met; a slice's spare places count too). A statement '..UptoSaid' is the law's where the arguments, and the package variables that the reading takes, are together of bulk at most 1048576: NARROWER than '..Said'. Prove '..Said' where nothing that the law and all that it calls make is longer than what came in: it says more and counts as full. Else prove '..UptoSaid'. A law counts once. -/
mutual
def uptoBulk {H : Type} : DataW H → Nat
  | .lit (.string bytes) => bytes.length + 1
  | .lit _ => 1
  | .nil => 1
  | .ptr d => uptoBulk d + 1
  | .slice elems spare => uptoBulkAll elems + uptoBulkAll spare + 1
  | .agg parts => uptoBulkAll parts + 1
  | .iface _ d => uptoBulk d + 1
  | .map entries => uptoBulkEntries entries + 1
  | .held _ => 1
def uptoBulkAll {H : Type} : List (DataW H) → Nat
  | [] => 0
  | d :: r => uptoBulk d + uptoBulkAll r
def uptoBulkEntries {H : Type} : List (Lit × DataW H) → Nat
  | [] => 0
  | x :: r => uptoBulkEntry x + uptoBulkEntries r
def uptoBulkEntry {H : Type} : Lit × DataW H → Nat
  | (.string bytes, d) => bytes.length + uptoBulk d + 1
  | (_, d) => uptoBulk d + 1
 end
def uptoSmall : (H : Type) → List (DataW H) → Bool := fun _ ds => decide (uptoBulkAll ds ≤ 1048576)
def OpenSpec.upto (s : _root_.Go.ChangeSpec) : _root_.Go.OpenSpec := { _root_.Go.OpenSpec.ofChange s with cond := some uptoSmall }

/-- 'laws.FnList', WHERE WHAT IT READS IS OF BULK AT MOST 1048576: true; the input reads as it did. -/
def fnListUptoRow : OpenClaim := { program := "ytemgofomhjabpaagreatdoor", sum := "2f52fd76b1366e0055ce314214370db58381d3c457c3993a1cb6e6541f81ba10", func := "loop.example/pub-ticksofcron/laws.FnList", spec := "fnList", inPlace := ["internal/abi.NoEscape", "internal/bytealg.MakeNoZero"], unfollowed := true, recurses := true, named := ["unicode/utf8.first", "unicode/utf8.acceptRanges", "unicode.CaseRanges"], apart := false, laid := [("unicode/utf8.acceptRanges", laid_unicode_utf8_acceptRanges), ("unicode.CaseRanges", laid_unicode_CaseRanges), ("unicode/utf8.first", laid_unicode_utf8_first)], narrowed := true }
def FnListUptoSaid : Prop := fnListUptoRow.holds Tryz.pinned (OpenSpec.upto fnListSpec)

/-- 'laws.FnQuestion', WHERE WHAT IT READS IS OF BULK AT MOST 1048576: true; the input reads as it did. -/
def fnQuestionUptoRow : OpenClaim := { program := "ytemgofomhjabpaagreatdoor", sum := "2f52fd76b1366e0055ce314214370db58381d3c457c3993a1cb6e6541f81ba10", func := "loop.example/pub-ticksofcron/laws.FnQuestion", spec := "fnQuestion", inPlace := ["internal/abi.NoEscape", "internal/bytealg.MakeNoZero"], unfollowed := true, recurses := true, named := ["unicode/utf8.first", "unicode/utf8.acceptRanges", "unicode.CaseRanges"], apart := false, laid := [("unicode/utf8.acceptRanges", laid_unicode_utf8_acceptRanges), ("unicode.CaseRanges", laid_unicode_CaseRanges), ("unicode/utf8.first", laid_unicode_utf8_first)], narrowed := true }
def FnQuestionUptoSaid : Prop := fnQuestionUptoRow.holds Tryz.pinned (OpenSpec.upto fnQuestionSpec)

/-- 'laws.FnRange', WHERE WHAT IT READS IS OF BULK AT MOST 1048576: true; the input reads as it did. -/
def fnRangeUptoRow : OpenClaim := { program := "ytemgofomhjabpaagreatdoor", sum := "2f52fd76b1366e0055ce314214370db58381d3c457c3993a1cb6e6541f81ba10", func := "loop.example/pub-ticksofcron/laws.FnRange", spec := "fnRange", inPlace := ["internal/abi.NoEscape", "internal/bytealg.MakeNoZero"], unfollowed := true, recurses := true, named := ["unicode/utf8.first", "unicode/utf8.acceptRanges", "unicode.CaseRanges"], apart := false, laid := [("unicode/utf8.acceptRanges", laid_unicode_utf8_acceptRanges), ("unicode.CaseRanges", laid_unicode_CaseRanges), ("unicode/utf8.first", laid_unicode_utf8_first)], narrowed := true }
def FnRangeUptoSaid : Prop := fnRangeUptoRow.holds Tryz.pinned (OpenSpec.upto fnRangeSpec)

/-- 'laws.FnSeconds', WHERE WHAT IT READS IS OF BULK AT MOST 1048576: true; the input reads as it did. -/
def fnSecondsUptoRow : OpenClaim := { program := "ytemgofomhjabpaagreatdoor", sum := "2f52fd76b1366e0055ce314214370db58381d3c457c3993a1cb6e6541f81ba10", func := "loop.example/pub-ticksofcron/laws.FnSeconds", spec := "fnSeconds", inPlace := ["internal/abi.NoEscape", "internal/bytealg.MakeNoZero"], unfollowed := true, recurses := true, named := ["unicode/utf8.first", "unicode/utf8.acceptRanges", "unicode.CaseRanges"], apart := false, laid := [("unicode/utf8.acceptRanges", laid_unicode_utf8_acceptRanges), ("unicode.CaseRanges", laid_unicode_CaseRanges), ("unicode/utf8.first", laid_unicode_utf8_first)], narrowed := true }
def FnSecondsUptoSaid : Prop := fnSecondsUptoRow.holds Tryz.pinned (OpenSpec.upto fnSecondsSpec)

/-- 'laws.FnStep', WHERE WHAT IT READS IS OF BULK AT MOST 1048576: true; the input reads as it did. -/
def fnStepUptoRow : OpenClaim := { program := "ytemgofomhjabpaagreatdoor", sum := "2f52fd76b1366e0055ce314214370db58381d3c457c3993a1cb6e6541f81ba10", func := "loop.example/pub-ticksofcron/laws.FnStep", spec := "fnStep", inPlace := ["internal/abi.NoEscape", "internal/bytealg.MakeNoZero"], unfollowed := true, recurses := true, named := ["unicode/utf8.first", "unicode/utf8.acceptRanges", "unicode.CaseRanges"], apart := false, laid := [("unicode/utf8.acceptRanges", laid_unicode_utf8_acceptRanges), ("unicode.CaseRanges", laid_unicode_CaseRanges), ("unicode/utf8.first", laid_unicode_utf8_first)], narrowed := true }
def FnStepUptoSaid : Prop := fnStepUptoRow.holds Tryz.pinned (OpenSpec.upto fnStepSpec)

/-- 'laws.FnStepRange', WHERE WHAT IT READS IS OF BULK AT MOST 1048576: true; the input reads as it did. -/
def fnStepRangeUptoRow : OpenClaim := { program := "ytemgofomhjabpaagreatdoor", sum := "2f52fd76b1366e0055ce314214370db58381d3c457c3993a1cb6e6541f81ba10", func := "loop.example/pub-ticksofcron/laws.FnStepRange", spec := "fnStepRange", inPlace := ["internal/abi.NoEscape", "internal/bytealg.MakeNoZero"], unfollowed := true, recurses := true, named := ["unicode/utf8.first", "unicode/utf8.acceptRanges", "unicode.CaseRanges"], apart := false, laid := [("unicode/utf8.acceptRanges", laid_unicode_utf8_acceptRanges), ("unicode.CaseRanges", laid_unicode_CaseRanges), ("unicode/utf8.first", laid_unicode_utf8_first)], narrowed := true }
def FnStepRangeUptoSaid : Prop := fnStepRangeUptoRow.holds Tryz.pinned (OpenSpec.upto fnStepRangeSpec)

/-- 'laws.FnYear', WHERE WHAT IT READS IS OF BULK AT MOST 1048576: true; the input reads as it did. -/
def fnYearUptoRow : OpenClaim := { program := "ytemgofomhjabpaagreatdoor", sum := "2f52fd76b1366e0055ce314214370db58381d3c457c3993a1cb6e6541f81ba10", func := "loop.example/pub-ticksofcron/laws.FnYear", spec := "fnYear", inPlace := ["internal/abi.NoEscape", "internal/bytealg.MakeNoZero"], unfollowed := true, recurses := true, named := ["unicode/utf8.first", "unicode/utf8.acceptRanges", "unicode.CaseRanges"], apart := false, laid := [("unicode/utf8.acceptRanges", laid_unicode_utf8_acceptRanges), ("unicode.CaseRanges", laid_unicode_CaseRanges), ("unicode/utf8.first", laid_unicode_utf8_first)], narrowed := true }
def FnYearUptoSaid : Prop := fnYearUptoRow.holds Tryz.pinned (OpenSpec.upto fnYearSpec)

/-- 'laws.FnBatch', WHERE WHAT IT READS IS OF BULK AT MOST 1048576: true; the input reads as it did. -/
def fnBatchUptoRow : OpenClaim := { program := "ytemgofomhjabpaagreatdoor", sum := "2f52fd76b1366e0055ce314214370db58381d3c457c3993a1cb6e6541f81ba10", func := "loop.example/pub-ticksofcron/laws.FnBatch", spec := "fnBatch", inPlace := ["internal/abi.NoEscape", "internal/bytealg.MakeNoZero"], unfollowed := true, recurses := true, named := ["unicode/utf8.first", "unicode/utf8.acceptRanges", "unicode.CaseRanges"], apart := false, laid := [("unicode/utf8.acceptRanges", laid_unicode_utf8_acceptRanges), ("unicode.CaseRanges", laid_unicode_CaseRanges), ("unicode/utf8.first", laid_unicode_utf8_first)], narrowed := true }
def FnBatchUptoSaid : Prop := fnBatchUptoRow.holds Tryz.pinned (OpenSpec.upto fnBatchSpec)

end Rows
end Go.Proofs.YtemgofomhjabpaaGreatDoor
