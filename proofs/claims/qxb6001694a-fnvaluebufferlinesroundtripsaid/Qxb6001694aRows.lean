/-
  No cell of these rows narrows 'for every input' (looked for: loops, veiled, ifaces, maps, wideKeys, modest, calm, conditions, laid).
  DERIVED. THE GIVEN ROWS OF THIS SEAT. 8 by the template 'for every input the law returns true; each argument reads behind the call as it read before'; 0 by the template 'total and deterministic' (their statements: Qxb6001694aTotals.lean).
  GIVEN WITH THE SEED: the statements are not yours to turn. If you find one false, say at which input.
  Laid BY PROGRAM, IN A SANDBOX (cutbox-rows.mjs): the forced cells as the released guide's own fill.sh prints them over the translation bcbb80eacec916a5… (all of the seat's roots in one cut). By AI agents, Wed Nov 11 2026. No macro, syntax, notation, axiom, sorry.
-/
import Derived.Test.Qxb6001694aChecked
import GoSem.Claim
import GoSem.ClaimJoined
import GoSem.ClaimMapViews
import Derived.JoinedTies
import Derived.KernelRfl
namespace Go.Proofs.Qxb6001694a
/- THE CELL 'sum', in the pinned program and in every row, IS THE sha256 OF THE DUMP (.gsa) THAT Qxb6001694aProg.lean LOADS. Nothing in Lean hashes anything: it is a label: what it is worth is what the hold of that sum in a sandbox is worth. -/
noncomputable def Try.pinned : Pinned := { name := "qxb6001694a", sum := "bcbb80eacec916a5ac6d87d323104d6d7fed03a1a7388c826b5296b19eb973a2", checked := Try.checked }
namespace Rows
def none {H : Type} : Left H := { results := [], args := [] }

/-- 'zzlaws_root_b1.FnValueBufferStartLineMatchesModel': WHATEVER THE INPUT: true; the input reads as it did. -/
def fnValueBufferStartLineMatchesModelSpec : ChangeSpec := { name := "fnValueBufferStartLineMatchesModel", fn := fun _ => fun
  | [d1, d2, d3, d4] => { results := [.lit (.bool true)], args := [d1, d2, d3, d4] }
  | _ => none }
def fnValueBufferStartLineMatchesModelRow : OpenClaim := { program := "qxb6001694a", sum := "bcbb80eacec916a5ac6d87d323104d6d7fed03a1a7388c826b5296b19eb973a2", func := "example.com/leaf/leaf/zzlaws_root_b1.FnValueBufferStartLineMatchesModel", spec := "fnValueBufferStartLineMatchesModel", apart := false }
def FnValueBufferStartLineMatchesModelSaid : Prop := fnValueBufferStartLineMatchesModelRow.holds Try.pinned (OpenSpec.ofChange fnValueBufferStartLineMatchesModelSpec)

/-- ITS FALSE NEIGHBOUR: 'it returns false'. Refute it at one input. -/
def fnValueBufferStartLineMatchesModelWrong : ChangeSpec := { name := "fnValueBufferStartLineMatchesModel", fn := fun _ => fun
  | [d1, d2, d3, d4] => { results := [.lit (.bool false)], args := [d1, d2, d3, d4] }
  | _ => none }
def FnValueBufferStartLineMatchesModelWrongFalsely : Prop := fnValueBufferStartLineMatchesModelRow.holds Try.pinned (OpenSpec.ofChange fnValueBufferStartLineMatchesModelWrong)

/-- 'zzlaws_root_b1.FnValueBufferLineInPartsAsWhole': WHATEVER THE INPUT: true; the input reads as it did. -/
def fnValueBufferLineInPartsAsWholeSpec : ChangeSpec := { name := "fnValueBufferLineInPartsAsWhole", fn := fun _ => fun
  | [d1, d2, d3, d4, d5, d6] => { results := [.lit (.bool true)], args := [d1, d2, d3, d4, d5, d6] }
  | _ => none }
def fnValueBufferLineInPartsAsWholeRow : OpenClaim := { program := "qxb6001694a", sum := "bcbb80eacec916a5ac6d87d323104d6d7fed03a1a7388c826b5296b19eb973a2", func := "example.com/leaf/leaf/zzlaws_root_b1.FnValueBufferLineInPartsAsWhole", spec := "fnValueBufferLineInPartsAsWhole", apart := false }
def FnValueBufferLineInPartsAsWholeSaid : Prop := fnValueBufferLineInPartsAsWholeRow.holds Try.pinned (OpenSpec.ofChange fnValueBufferLineInPartsAsWholeSpec)

/-- ITS FALSE NEIGHBOUR: 'it returns false'. Refute it at one input. -/
def fnValueBufferLineInPartsAsWholeWrong : ChangeSpec := { name := "fnValueBufferLineInPartsAsWhole", fn := fun _ => fun
  | [d1, d2, d3, d4, d5, d6] => { results := [.lit (.bool false)], args := [d1, d2, d3, d4, d5, d6] }
  | _ => none }
def FnValueBufferLineInPartsAsWholeWrongFalsely : Prop := fnValueBufferLineInPartsAsWholeRow.holds Try.pinned (OpenSpec.ofChange fnValueBufferLineInPartsAsWholeWrong)

/-- 'zzlaws_root_b1.FnValueBufferWriteLineOnlyAppends': WHATEVER THE INPUT: true; the input reads as it did. -/
def fnValueBufferWriteLineOnlyAppendsSpec : ChangeSpec := { name := "fnValueBufferWriteLineOnlyAppends", fn := fun _ => fun
  | [d1, d2, d3, d4] => { results := [.lit (.bool true)], args := [d1, d2, d3, d4] }
  | _ => none }
def fnValueBufferWriteLineOnlyAppendsRow : OpenClaim := { program := "qxb6001694a", sum := "bcbb80eacec916a5ac6d87d323104d6d7fed03a1a7388c826b5296b19eb973a2", func := "example.com/leaf/leaf/zzlaws_root_b1.FnValueBufferWriteLineOnlyAppends", spec := "fnValueBufferWriteLineOnlyAppends", apart := false }
def FnValueBufferWriteLineOnlyAppendsSaid : Prop := fnValueBufferWriteLineOnlyAppendsRow.holds Try.pinned (OpenSpec.ofChange fnValueBufferWriteLineOnlyAppendsSpec)

/-- ITS FALSE NEIGHBOUR: 'it returns false'. Refute it at one input. -/
def fnValueBufferWriteLineOnlyAppendsWrong : ChangeSpec := { name := "fnValueBufferWriteLineOnlyAppends", fn := fun _ => fun
  | [d1, d2, d3, d4] => { results := [.lit (.bool false)], args := [d1, d2, d3, d4] }
  | _ => none }
def FnValueBufferWriteLineOnlyAppendsWrongFalsely : Prop := fnValueBufferWriteLineOnlyAppendsRow.holds Try.pinned (OpenSpec.ofChange fnValueBufferWriteLineOnlyAppendsWrong)

/-- 'zzlaws_root_b1.FnValueBufferStartNextLineAgreesWithStartLine': WHATEVER THE INPUT: true; the input reads as it did. -/
def fnValueBufferStartNextLineAgreesWithStartLineSpec : ChangeSpec := { name := "fnValueBufferStartNextLineAgreesWithStartLine", fn := fun _ => fun
  | [d1, d2, d3, d4, d5] => { results := [.lit (.bool true)], args := [d1, d2, d3, d4, d5] }
  | _ => none }
def fnValueBufferStartNextLineAgreesWithStartLineRow : OpenClaim := { program := "qxb6001694a", sum := "bcbb80eacec916a5ac6d87d323104d6d7fed03a1a7388c826b5296b19eb973a2", func := "example.com/leaf/leaf/zzlaws_root_b1.FnValueBufferStartNextLineAgreesWithStartLine", spec := "fnValueBufferStartNextLineAgreesWithStartLine", apart := false }
def FnValueBufferStartNextLineAgreesWithStartLineSaid : Prop := fnValueBufferStartNextLineAgreesWithStartLineRow.holds Try.pinned (OpenSpec.ofChange fnValueBufferStartNextLineAgreesWithStartLineSpec)

/-- ITS FALSE NEIGHBOUR: 'it returns false'. Refute it at one input. -/
def fnValueBufferStartNextLineAgreesWithStartLineWrong : ChangeSpec := { name := "fnValueBufferStartNextLineAgreesWithStartLine", fn := fun _ => fun
  | [d1, d2, d3, d4, d5] => { results := [.lit (.bool false)], args := [d1, d2, d3, d4, d5] }
  | _ => none }
def FnValueBufferStartNextLineAgreesWithStartLineWrongFalsely : Prop := fnValueBufferStartNextLineAgreesWithStartLineRow.holds Try.pinned (OpenSpec.ofChange fnValueBufferStartNextLineAgreesWithStartLineWrong)

/-- 'zzlaws_root_b1.FnValueBufferLinesRoundTrip': WHATEVER THE INPUT: true; the input reads as it did. -/
def fnValueBufferLinesRoundTripSpec : ChangeSpec := { name := "fnValueBufferLinesRoundTrip", fn := fun _ => fun
  | [d1, d2] => { results := [.lit (.bool true)], args := [d1, d2] }
  | _ => none }
def fnValueBufferLinesRoundTripRow : OpenClaim := { program := "qxb6001694a", sum := "bcbb80eacec916a5ac6d87d323104d6d7fed03a1a7388c826b5296b19eb973a2", func := "example.com/leaf/leaf/zzlaws_root_b1.FnValueBufferLinesRoundTrip", spec := "fnValueBufferLinesRoundTrip", apart := false }
def FnValueBufferLinesRoundTripSaid : Prop := fnValueBufferLinesRoundTripRow.holds Try.pinned (OpenSpec.ofChange fnValueBufferLinesRoundTripSpec)

/-- ITS FALSE NEIGHBOUR: 'it returns false'. Refute it at one input. -/
def fnValueBufferLinesRoundTripWrong : ChangeSpec := { name := "fnValueBufferLinesRoundTrip", fn := fun _ => fun
  | [d1, d2] => { results := [.lit (.bool false)], args := [d1, d2] }
  | _ => none }
def FnValueBufferLinesRoundTripWrongFalsely : Prop := fnValueBufferLinesRoundTripRow.holds Try.pinned (OpenSpec.ofChange fnValueBufferLinesRoundTripWrong)

/-- 'zzlaws_root_b1.FnStanzaValueIsLastMatch': WHATEVER THE INPUT: true; the input reads as it did. -/
def fnStanzaValueIsLastMatchSpec : ChangeSpec := { name := "fnStanzaValueIsLastMatch", fn := fun _ => fun
  | [d1, d2, d3] => { results := [.lit (.bool true)], args := [d1, d2, d3] }
  | _ => none }
def fnStanzaValueIsLastMatchRow : OpenClaim := { program := "qxb6001694a", sum := "bcbb80eacec916a5ac6d87d323104d6d7fed03a1a7388c826b5296b19eb973a2", func := "example.com/leaf/leaf/zzlaws_root_b1.FnStanzaValueIsLastMatch", spec := "fnStanzaValueIsLastMatch", apart := false }
def FnStanzaValueIsLastMatchSaid : Prop := fnStanzaValueIsLastMatchRow.holds Try.pinned (OpenSpec.ofChange fnStanzaValueIsLastMatchSpec)

/-- ITS FALSE NEIGHBOUR: 'it returns false'. Refute it at one input. -/
def fnStanzaValueIsLastMatchWrong : ChangeSpec := { name := "fnStanzaValueIsLastMatch", fn := fun _ => fun
  | [d1, d2, d3] => { results := [.lit (.bool false)], args := [d1, d2, d3] }
  | _ => none }
def FnStanzaValueIsLastMatchWrongFalsely : Prop := fnStanzaValueIsLastMatchRow.holds Try.pinned (OpenSpec.ofChange fnStanzaValueIsLastMatchWrong)

/-- 'zzlaws_root_b1.FnStanzaValueAfterAppendAnyCase': WHATEVER THE INPUT: true; the input reads as it did. -/
def fnStanzaValueAfterAppendAnyCaseSpec : ChangeSpec := { name := "fnStanzaValueAfterAppendAnyCase", fn := fun _ => fun
  | [d1, d2, d3, d4] => { results := [.lit (.bool true)], args := [d1, d2, d3, d4] }
  | _ => none }
def fnStanzaValueAfterAppendAnyCaseRow : OpenClaim := { program := "qxb6001694a", sum := "bcbb80eacec916a5ac6d87d323104d6d7fed03a1a7388c826b5296b19eb973a2", func := "example.com/leaf/leaf/zzlaws_root_b1.FnStanzaValueAfterAppendAnyCase", spec := "fnStanzaValueAfterAppendAnyCase", apart := false }
def FnStanzaValueAfterAppendAnyCaseSaid : Prop := fnStanzaValueAfterAppendAnyCaseRow.holds Try.pinned (OpenSpec.ofChange fnStanzaValueAfterAppendAnyCaseSpec)

/-- ITS FALSE NEIGHBOUR: 'it returns false'. Refute it at one input. -/
def fnStanzaValueAfterAppendAnyCaseWrong : ChangeSpec := { name := "fnStanzaValueAfterAppendAnyCase", fn := fun _ => fun
  | [d1, d2, d3, d4] => { results := [.lit (.bool false)], args := [d1, d2, d3, d4] }
  | _ => none }
def FnStanzaValueAfterAppendAnyCaseWrongFalsely : Prop := fnStanzaValueAfterAppendAnyCaseRow.holds Try.pinned (OpenSpec.ofChange fnStanzaValueAfterAppendAnyCaseWrong)

/-- 'zzlaws_root_b1.FnStanzaValueAgreesWithUnique': WHATEVER THE INPUT: true; the input reads as it did. -/
def fnStanzaValueAgreesWithUniqueSpec : ChangeSpec := { name := "fnStanzaValueAgreesWithUnique", fn := fun _ => fun
  | [d1, d2] => { results := [.lit (.bool true)], args := [d1, d2] }
  | _ => none }
def fnStanzaValueAgreesWithUniqueRow : OpenClaim := { program := "qxb6001694a", sum := "bcbb80eacec916a5ac6d87d323104d6d7fed03a1a7388c826b5296b19eb973a2", func := "example.com/leaf/leaf/zzlaws_root_b1.FnStanzaValueAgreesWithUnique", spec := "fnStanzaValueAgreesWithUnique", apart := false }
def FnStanzaValueAgreesWithUniqueSaid : Prop := fnStanzaValueAgreesWithUniqueRow.holds Try.pinned (OpenSpec.ofChange fnStanzaValueAgreesWithUniqueSpec)

/-- ITS FALSE NEIGHBOUR: 'it returns false'. Refute it at one input. -/
def fnStanzaValueAgreesWithUniqueWrong : ChangeSpec := { name := "fnStanzaValueAgreesWithUnique", fn := fun _ => fun
  | [d1, d2] => { results := [.lit (.bool false)], args := [d1, d2] }
  | _ => none }
def FnStanzaValueAgreesWithUniqueWrongFalsely : Prop := fnStanzaValueAgreesWithUniqueRow.holds Try.pinned (OpenSpec.ofChange fnStanzaValueAgreesWithUniqueWrong)

end Rows
end Go.Proofs.Qxb6001694a
