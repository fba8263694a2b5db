/-
  No cell of these rows narrows 'for every input' (looked for: loops, veiled, ifaces, maps, wideKeys, modest, calm, conditions, laid).
  DERIVED. THE GIVEN ROWS OF THIS SEAT. 9 by the template 'for every input the law returns true; each argument reads behind the call as it read before'; 0 by the template 'total and deterministic' (their statements: Qxb6600868aTotals.lean).
  GIVEN WITH THE SEED: the statements are not yours to turn. If you find one false, say at which input.
  Laid BY PROGRAM, IN A SANDBOX (cutbox-rows.mjs): the forced cells as the released guide's own fill.sh prints them over the translation 66e529b3eb99d4c6… (all of the seat's roots in one cut). By AI agents, Wed Nov 11 2026. No macro, syntax, notation, axiom, sorry.
-/
import Derived.Test.Qxb6600868aChecked
import GoSem.Claim
import GoSem.ClaimJoined
import GoSem.ClaimMapViews
import Derived.JoinedTies
import Derived.KernelRfl
namespace Go.Proofs.Qxb6600868a
/- THE CELL 'sum', in the pinned program and in every row, IS THE sha256 OF THE DUMP (.gsa) THAT Qxb6600868aProg.lean LOADS. Nothing in Lean hashes anything: it is a label: what it is worth is what the hold of that sum in a sandbox is worth. -/
noncomputable def Try.pinned : Pinned := { name := "qxb6600868a", sum := "66e529b3eb99d4c60b3f7657ddf85826f3b45b27b6d4e81759a058227de7c6ed", checked := Try.checked }
namespace Rows
def none {H : Type} : Left H := { results := [], args := [] }

/-- 'zzlaws_internal_event_b1.FnNumberMatchesAutomaton': WHATEVER THE INPUT: true; the input reads as it did. -/
def fnNumberMatchesAutomatonSpec : ChangeSpec := { name := "fnNumberMatchesAutomaton", fn := fun _ => fun
  | [d1, d2] => { results := [.lit (.bool true)], args := [d1, d2] }
  | _ => none }
def fnNumberMatchesAutomatonRow : OpenClaim := { program := "qxb6600868a", sum := "66e529b3eb99d4c60b3f7657ddf85826f3b45b27b6d4e81759a058227de7c6ed", func := "example.com/meterd/meterd/zzlaws_internal_event_b1.FnNumberMatchesAutomaton", spec := "fnNumberMatchesAutomaton", apart := false }
def FnNumberMatchesAutomatonSaid : Prop := fnNumberMatchesAutomatonRow.holds Try.pinned (OpenSpec.ofChange fnNumberMatchesAutomatonSpec)

/-- ITS FALSE NEIGHBOUR: 'it returns false'. Refute it at one input. -/
def fnNumberMatchesAutomatonWrong : ChangeSpec := { name := "fnNumberMatchesAutomaton", fn := fun _ => fun
  | [d1, d2] => { results := [.lit (.bool false)], args := [d1, d2] }
  | _ => none }
def FnNumberMatchesAutomatonWrongFalsely : Prop := fnNumberMatchesAutomatonRow.holds Try.pinned (OpenSpec.ofChange fnNumberMatchesAutomatonWrong)

/-- 'zzlaws_internal_event_b1.FnNumberSpanStandsAlone': WHATEVER THE INPUT: true; the input reads as it did. -/
def fnNumberSpanStandsAloneSpec : ChangeSpec := { name := "fnNumberSpanStandsAlone", fn := fun _ => fun
  | [d1, d2] => { results := [.lit (.bool true)], args := [d1, d2] }
  | _ => none }
def fnNumberSpanStandsAloneRow : OpenClaim := { program := "qxb6600868a", sum := "66e529b3eb99d4c60b3f7657ddf85826f3b45b27b6d4e81759a058227de7c6ed", func := "example.com/meterd/meterd/zzlaws_internal_event_b1.FnNumberSpanStandsAlone", spec := "fnNumberSpanStandsAlone", apart := false }
def FnNumberSpanStandsAloneSaid : Prop := fnNumberSpanStandsAloneRow.holds Try.pinned (OpenSpec.ofChange fnNumberSpanStandsAloneSpec)

/-- ITS FALSE NEIGHBOUR: 'it returns false'. Refute it at one input. -/
def fnNumberSpanStandsAloneWrong : ChangeSpec := { name := "fnNumberSpanStandsAlone", fn := fun _ => fun
  | [d1, d2] => { results := [.lit (.bool false)], args := [d1, d2] }
  | _ => none }
def FnNumberSpanStandsAloneWrongFalsely : Prop := fnNumberSpanStandsAloneRow.holds Try.pinned (OpenSpec.ofChange fnNumberSpanStandsAloneWrong)

/-- 'zzlaws_internal_event_b1.FnNumberReadsWrittenNumbers': WHATEVER THE INPUT: true; the input reads as it did. -/
def fnNumberReadsWrittenNumbersSpec : ChangeSpec := { name := "fnNumberReadsWrittenNumbers", fn := fun _ => fun
  | [d1, d2, d3, d4, d5, d6, d7, d8, d9] => { results := [.lit (.bool true)], args := [d1, d2, d3, d4, d5, d6, d7, d8, d9] }
  | _ => none }
def fnNumberReadsWrittenNumbersRow : OpenClaim := { program := "qxb6600868a", sum := "66e529b3eb99d4c60b3f7657ddf85826f3b45b27b6d4e81759a058227de7c6ed", func := "example.com/meterd/meterd/zzlaws_internal_event_b1.FnNumberReadsWrittenNumbers", spec := "fnNumberReadsWrittenNumbers", apart := false }
def FnNumberReadsWrittenNumbersSaid : Prop := fnNumberReadsWrittenNumbersRow.holds Try.pinned (OpenSpec.ofChange fnNumberReadsWrittenNumbersSpec)

/-- ITS FALSE NEIGHBOUR: 'it returns false'. Refute it at one input. -/
def fnNumberReadsWrittenNumbersWrong : ChangeSpec := { name := "fnNumberReadsWrittenNumbers", fn := fun _ => fun
  | [d1, d2, d3, d4, d5, d6, d7, d8, d9] => { results := [.lit (.bool false)], args := [d1, d2, d3, d4, d5, d6, d7, d8, d9] }
  | _ => none }
def FnNumberReadsWrittenNumbersWrongFalsely : Prop := fnNumberReadsWrittenNumbersRow.holds Try.pinned (OpenSpec.ofChange fnNumberReadsWrittenNumbersWrong)

/-- 'zzlaws_internal_event_b1.FnEscapeMatchesCaseTable': WHATEVER THE INPUT: true; the input reads as it did. -/
def fnEscapeMatchesCaseTableSpec : ChangeSpec := { name := "fnEscapeMatchesCaseTable", fn := fun _ => fun
  | [d1, d2] => { results := [.lit (.bool true)], args := [d1, d2] }
  | _ => none }
def fnEscapeMatchesCaseTableRow : OpenClaim := { program := "qxb6600868a", sum := "66e529b3eb99d4c60b3f7657ddf85826f3b45b27b6d4e81759a058227de7c6ed", func := "example.com/meterd/meterd/zzlaws_internal_event_b1.FnEscapeMatchesCaseTable", spec := "fnEscapeMatchesCaseTable", apart := false }
def FnEscapeMatchesCaseTableSaid : Prop := fnEscapeMatchesCaseTableRow.holds Try.pinned (OpenSpec.ofChange fnEscapeMatchesCaseTableSpec)

/-- ITS FALSE NEIGHBOUR: 'it returns false'. Refute it at one input. -/
def fnEscapeMatchesCaseTableWrong : ChangeSpec := { name := "fnEscapeMatchesCaseTable", fn := fun _ => fun
  | [d1, d2] => { results := [.lit (.bool false)], args := [d1, d2] }
  | _ => none }
def FnEscapeMatchesCaseTableWrongFalsely : Prop := fnEscapeMatchesCaseTableRow.holds Try.pinned (OpenSpec.ofChange fnEscapeMatchesCaseTableWrong)

/-- 'zzlaws_internal_event_b1.FnEscapeReadsEveryEscape': WHATEVER THE INPUT: true; the input reads as it did. -/
def fnEscapeReadsEveryEscapeSpec : ChangeSpec := { name := "fnEscapeReadsEveryEscape", fn := fun _ => fun
  | [d1, d2, d3, d4, d5] => { results := [.lit (.bool true)], args := [d1, d2, d3, d4, d5] }
  | _ => none }
def fnEscapeReadsEveryEscapeRow : OpenClaim := { program := "qxb6600868a", sum := "66e529b3eb99d4c60b3f7657ddf85826f3b45b27b6d4e81759a058227de7c6ed", func := "example.com/meterd/meterd/zzlaws_internal_event_b1.FnEscapeReadsEveryEscape", spec := "fnEscapeReadsEveryEscape", apart := false }
def FnEscapeReadsEveryEscapeSaid : Prop := fnEscapeReadsEveryEscapeRow.holds Try.pinned (OpenSpec.ofChange fnEscapeReadsEveryEscapeSpec)

/-- ITS FALSE NEIGHBOUR: 'it returns false'. Refute it at one input. -/
def fnEscapeReadsEveryEscapeWrong : ChangeSpec := { name := "fnEscapeReadsEveryEscape", fn := fun _ => fun
  | [d1, d2, d3, d4, d5] => { results := [.lit (.bool false)], args := [d1, d2, d3, d4, d5] }
  | _ => none }
def FnEscapeReadsEveryEscapeWrongFalsely : Prop := fnEscapeReadsEveryEscapeRow.holds Try.pinned (OpenSpec.ofChange fnEscapeReadsEveryEscapeWrong)

/-- 'zzlaws_internal_event_b1.FnEscapeSpanIsBoundedAndStandsAlone': WHATEVER THE INPUT: true; the input reads as it did. -/
def fnEscapeSpanIsBoundedAndStandsAloneSpec : ChangeSpec := { name := "fnEscapeSpanIsBoundedAndStandsAlone", fn := fun _ => fun
  | [d1, d2] => { results := [.lit (.bool true)], args := [d1, d2] }
  | _ => none }
def fnEscapeSpanIsBoundedAndStandsAloneRow : OpenClaim := { program := "qxb6600868a", sum := "66e529b3eb99d4c60b3f7657ddf85826f3b45b27b6d4e81759a058227de7c6ed", func := "example.com/meterd/meterd/zzlaws_internal_event_b1.FnEscapeSpanIsBoundedAndStandsAlone", spec := "fnEscapeSpanIsBoundedAndStandsAlone", apart := false }
def FnEscapeSpanIsBoundedAndStandsAloneSaid : Prop := fnEscapeSpanIsBoundedAndStandsAloneRow.holds Try.pinned (OpenSpec.ofChange fnEscapeSpanIsBoundedAndStandsAloneSpec)

/-- ITS FALSE NEIGHBOUR: 'it returns false'. Refute it at one input. -/
def fnEscapeSpanIsBoundedAndStandsAloneWrong : ChangeSpec := { name := "fnEscapeSpanIsBoundedAndStandsAlone", fn := fun _ => fun
  | [d1, d2] => { results := [.lit (.bool false)], args := [d1, d2] }
  | _ => none }
def FnEscapeSpanIsBoundedAndStandsAloneWrongFalsely : Prop := fnEscapeSpanIsBoundedAndStandsAloneRow.holds Try.pinned (OpenSpec.ofChange fnEscapeSpanIsBoundedAndStandsAloneWrong)

/-- 'zzlaws_internal_event_b1.FnNextReadsWhatIsBuilt': WHATEVER THE INPUT: true; the input reads as it did. -/
def fnNextReadsWhatIsBuiltSpec : ChangeSpec := { name := "fnNextReadsWhatIsBuilt", fn := fun _ => fun
  | [d1, d2, d3, d4, d5, d6] => { results := [.lit (.bool true)], args := [d1, d2, d3, d4, d5, d6] }
  | _ => none }
def fnNextReadsWhatIsBuiltRow : OpenClaim := { program := "qxb6600868a", sum := "66e529b3eb99d4c60b3f7657ddf85826f3b45b27b6d4e81759a058227de7c6ed", func := "example.com/meterd/meterd/zzlaws_internal_event_b1.FnNextReadsWhatIsBuilt", spec := "fnNextReadsWhatIsBuilt", apart := false }
def FnNextReadsWhatIsBuiltSaid : Prop := fnNextReadsWhatIsBuiltRow.holds Try.pinned (OpenSpec.ofChange fnNextReadsWhatIsBuiltSpec)

/-- ITS FALSE NEIGHBOUR: 'it returns false'. Refute it at one input. -/
def fnNextReadsWhatIsBuiltWrong : ChangeSpec := { name := "fnNextReadsWhatIsBuilt", fn := fun _ => fun
  | [d1, d2, d3, d4, d5, d6] => { results := [.lit (.bool false)], args := [d1, d2, d3, d4, d5, d6] }
  | _ => none }
def FnNextReadsWhatIsBuiltWrongFalsely : Prop := fnNextReadsWhatIsBuiltRow.holds Try.pinned (OpenSpec.ofChange fnNextReadsWhatIsBuiltWrong)

/-- 'zzlaws_internal_event_b1.FnNextRefusesAStrayByte': WHATEVER THE INPUT: true; the input reads as it did. -/
def fnNextRefusesAStrayByteSpec : ChangeSpec := { name := "fnNextRefusesAStrayByte", fn := fun _ => fun
  | [d1, d2, d3] => { results := [.lit (.bool true)], args := [d1, d2, d3] }
  | _ => none }
def fnNextRefusesAStrayByteRow : OpenClaim := { program := "qxb6600868a", sum := "66e529b3eb99d4c60b3f7657ddf85826f3b45b27b6d4e81759a058227de7c6ed", func := "example.com/meterd/meterd/zzlaws_internal_event_b1.FnNextRefusesAStrayByte", spec := "fnNextRefusesAStrayByte", apart := false }
def FnNextRefusesAStrayByteSaid : Prop := fnNextRefusesAStrayByteRow.holds Try.pinned (OpenSpec.ofChange fnNextRefusesAStrayByteSpec)

/-- ITS FALSE NEIGHBOUR: 'it returns false'. Refute it at one input. -/
def fnNextRefusesAStrayByteWrong : ChangeSpec := { name := "fnNextRefusesAStrayByte", fn := fun _ => fun
  | [d1, d2, d3] => { results := [.lit (.bool false)], args := [d1, d2, d3] }
  | _ => none }
def FnNextRefusesAStrayByteWrongFalsely : Prop := fnNextRefusesAStrayByteRow.holds Try.pinned (OpenSpec.ofChange fnNextRefusesAStrayByteWrong)

/-- 'zzlaws_internal_event_b1.FnNextKeepsAPrefixAndMovesForward': WHATEVER THE INPUT: true; the input reads as it did. -/
def fnNextKeepsAPrefixAndMovesForwardSpec : ChangeSpec := { name := "fnNextKeepsAPrefixAndMovesForward", fn := fun _ => fun
  | [d1, d2, d3] => { results := [.lit (.bool true)], args := [d1, d2, d3] }
  | _ => none }
def fnNextKeepsAPrefixAndMovesForwardRow : OpenClaim := { program := "qxb6600868a", sum := "66e529b3eb99d4c60b3f7657ddf85826f3b45b27b6d4e81759a058227de7c6ed", func := "example.com/meterd/meterd/zzlaws_internal_event_b1.FnNextKeepsAPrefixAndMovesForward", spec := "fnNextKeepsAPrefixAndMovesForward", apart := false }
def FnNextKeepsAPrefixAndMovesForwardSaid : Prop := fnNextKeepsAPrefixAndMovesForwardRow.holds Try.pinned (OpenSpec.ofChange fnNextKeepsAPrefixAndMovesForwardSpec)

/-- ITS FALSE NEIGHBOUR: 'it returns false'. Refute it at one input. -/
def fnNextKeepsAPrefixAndMovesForwardWrong : ChangeSpec := { name := "fnNextKeepsAPrefixAndMovesForward", fn := fun _ => fun
  | [d1, d2, d3] => { results := [.lit (.bool false)], args := [d1, d2, d3] }
  | _ => none }
def FnNextKeepsAPrefixAndMovesForwardWrongFalsely : Prop := fnNextKeepsAPrefixAndMovesForwardRow.holds Try.pinned (OpenSpec.ofChange fnNextKeepsAPrefixAndMovesForwardWrong)

end Rows
end Go.Proofs.Qxb6600868a
