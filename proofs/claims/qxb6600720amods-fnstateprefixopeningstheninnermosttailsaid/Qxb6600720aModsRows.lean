/-
  No cell of these rows narrows 'for every input' (looked for: loops, veiled, ifaces, maps, wideKeys, modest, calm, conditions, laid).
  DERIVED. THE GIVEN ROWS OF THIS SEAT. 8 by the template 'for every input the law returns true; each argument reads behind the call as it read before'; 0 by the template 'total and deterministic' (their statements: Qxb6600720aModsTotals.lean).
  GIVEN WITH THE SEED: the statements are not yours to turn. If you find one false, say at which input.
  Laid BY PROGRAM, IN A SANDBOX (cutbox-rows.mjs): the forced cells as the released guide's own fill.sh prints them over the translation d80dc408de588ac2… (all of the seat's roots in one cut). By AI agents, Wed Nov 11 2026. No macro, syntax, notation, axiom, sorry.
-/
import Derived.Test.Qxb6600720aModsChecked
import GoSem.Claim
import GoSem.ClaimJoined
import GoSem.ClaimMapViews
import Derived.JoinedTies
import Derived.KernelRfl
namespace Go.Proofs.Qxb6600720aMods
/- THE CELL 'sum', in the pinned program and in every row, IS THE sha256 OF THE DUMP (.gsa) THAT Qxb6600720aModsProg.lean LOADS. Nothing in Lean hashes anything: it is a label: what it is worth is what the hold of that sum in a sandbox is worth. -/
noncomputable def Trym.pinned : Pinned := { name := "qxb6600720amods", sum := "d80dc408de588ac29c5f8d15dbbe5f2f41054410217fe08264626f722af7c05e", checked := Trym.checked }
namespace Rows
def none {H : Type} : Left H := { results := [], args := [] }

/-- 'zzlaws_root_b1.FnStatePrefixScannerRoundTrip': WHATEVER THE INPUT: true; the input reads as it did. -/
def fnStatePrefixScannerRoundTripSpec : ChangeSpec := { name := "fnStatePrefixScannerRoundTrip", fn := fun _ => fun
  | [d1, d2] => { results := [.lit (.bool true)], args := [d1, d2] }
  | _ => none }
def fnStatePrefixScannerRoundTripRow : OpenClaim := { program := "qxb6600720amods", sum := "d80dc408de588ac29c5f8d15dbbe5f2f41054410217fe08264626f722af7c05e", func := "example.com/itemwise/itemwise/zzlaws_root_b1.FnStatePrefixScannerRoundTrip", spec := "fnStatePrefixScannerRoundTrip", make := .lifted ["publicsums"], apart := false }
def FnStatePrefixScannerRoundTripSaid : Prop := fnStatePrefixScannerRoundTripRow.holds Trym.pinned (OpenSpec.ofChange fnStatePrefixScannerRoundTripSpec)

/-- ITS FALSE NEIGHBOUR: 'it returns false'. Refute it at one input. -/
def fnStatePrefixScannerRoundTripWrong : ChangeSpec := { name := "fnStatePrefixScannerRoundTrip", fn := fun _ => fun
  | [d1, d2] => { results := [.lit (.bool false)], args := [d1, d2] }
  | _ => none }
def FnStatePrefixScannerRoundTripWrongFalsely : Prop := fnStatePrefixScannerRoundTripRow.holds Trym.pinned (OpenSpec.ofChange fnStatePrefixScannerRoundTripWrong)

/-- 'zzlaws_root_b1.FnStatePrefixOpeningsThenInnermostTail': WHATEVER THE INPUT: true; the input reads as it did. -/
def fnStatePrefixOpeningsThenInnermostTailSpec : ChangeSpec := { name := "fnStatePrefixOpeningsThenInnermostTail", fn := fun _ => fun
  | [d1, d2] => { results := [.lit (.bool true)], args := [d1, d2] }
  | _ => none }
def fnStatePrefixOpeningsThenInnermostTailRow : OpenClaim := { program := "qxb6600720amods", sum := "d80dc408de588ac29c5f8d15dbbe5f2f41054410217fe08264626f722af7c05e", func := "example.com/itemwise/itemwise/zzlaws_root_b1.FnStatePrefixOpeningsThenInnermostTail", spec := "fnStatePrefixOpeningsThenInnermostTail", make := .lifted ["publicsums"], apart := false }
def FnStatePrefixOpeningsThenInnermostTailSaid : Prop := fnStatePrefixOpeningsThenInnermostTailRow.holds Trym.pinned (OpenSpec.ofChange fnStatePrefixOpeningsThenInnermostTailSpec)

/-- ITS FALSE NEIGHBOUR: 'it returns false'. Refute it at one input. -/
def fnStatePrefixOpeningsThenInnermostTailWrong : ChangeSpec := { name := "fnStatePrefixOpeningsThenInnermostTail", fn := fun _ => fun
  | [d1, d2] => { results := [.lit (.bool false)], args := [d1, d2] }
  | _ => none }
def FnStatePrefixOpeningsThenInnermostTailWrongFalsely : Prop := fnStatePrefixOpeningsThenInnermostTailRow.holds Trym.pinned (OpenSpec.ofChange fnStatePrefixOpeningsThenInnermostTailWrong)

/-- 'zzlaws_root_b1.FnEscapeEndMatchesEscapeGrammar': WHATEVER THE INPUT: true; the input reads as it did. -/
def fnEscapeEndMatchesEscapeGrammarSpec : ChangeSpec := { name := "fnEscapeEndMatchesEscapeGrammar", fn := fun _ => fun
  | [d1, d2] => { results := [.lit (.bool true)], args := [d1, d2] }
  | _ => none }
def fnEscapeEndMatchesEscapeGrammarRow : OpenClaim := { program := "qxb6600720amods", sum := "d80dc408de588ac29c5f8d15dbbe5f2f41054410217fe08264626f722af7c05e", func := "example.com/itemwise/itemwise/zzlaws_root_b1.FnEscapeEndMatchesEscapeGrammar", spec := "fnEscapeEndMatchesEscapeGrammar", make := .lifted ["publicsums"], apart := false }
def FnEscapeEndMatchesEscapeGrammarSaid : Prop := fnEscapeEndMatchesEscapeGrammarRow.holds Trym.pinned (OpenSpec.ofChange fnEscapeEndMatchesEscapeGrammarSpec)

/-- ITS FALSE NEIGHBOUR: 'it returns false'. Refute it at one input. -/
def fnEscapeEndMatchesEscapeGrammarWrong : ChangeSpec := { name := "fnEscapeEndMatchesEscapeGrammar", fn := fun _ => fun
  | [d1, d2] => { results := [.lit (.bool false)], args := [d1, d2] }
  | _ => none }
def FnEscapeEndMatchesEscapeGrammarWrongFalsely : Prop := fnEscapeEndMatchesEscapeGrammarRow.holds Trym.pinned (OpenSpec.ofChange fnEscapeEndMatchesEscapeGrammarWrong)

/-- 'zzlaws_root_b1.FnEscapeEndLocalAndBounded': WHATEVER THE INPUT: true; the input reads as it did. -/
def fnEscapeEndLocalAndBoundedSpec : ChangeSpec := { name := "fnEscapeEndLocalAndBounded", fn := fun _ => fun
  | [d1, d2] => { results := [.lit (.bool true)], args := [d1, d2] }
  | _ => none }
def fnEscapeEndLocalAndBoundedRow : OpenClaim := { program := "qxb6600720amods", sum := "d80dc408de588ac29c5f8d15dbbe5f2f41054410217fe08264626f722af7c05e", func := "example.com/itemwise/itemwise/zzlaws_root_b1.FnEscapeEndLocalAndBounded", spec := "fnEscapeEndLocalAndBounded", make := .lifted ["publicsums"], apart := false }
def FnEscapeEndLocalAndBoundedSaid : Prop := fnEscapeEndLocalAndBoundedRow.holds Trym.pinned (OpenSpec.ofChange fnEscapeEndLocalAndBoundedSpec)

/-- ITS FALSE NEIGHBOUR: 'it returns false'. Refute it at one input. -/
def fnEscapeEndLocalAndBoundedWrong : ChangeSpec := { name := "fnEscapeEndLocalAndBounded", fn := fun _ => fun
  | [d1, d2] => { results := [.lit (.bool false)], args := [d1, d2] }
  | _ => none }
def FnEscapeEndLocalAndBoundedWrongFalsely : Prop := fnEscapeEndLocalAndBoundedRow.holds Trym.pinned (OpenSpec.ofChange fnEscapeEndLocalAndBoundedWrong)

/-- 'zzlaws_root_b1.FnEscapeEndDecidedByItsOwnBytes': WHATEVER THE INPUT: true; the input reads as it did. -/
def fnEscapeEndDecidedByItsOwnBytesSpec : ChangeSpec := { name := "fnEscapeEndDecidedByItsOwnBytes", fn := fun _ => fun
  | [d1, d2, d3, d4] => { results := [.lit (.bool true)], args := [d1, d2, d3, d4] }
  | _ => none }
def fnEscapeEndDecidedByItsOwnBytesRow : OpenClaim := { program := "qxb6600720amods", sum := "d80dc408de588ac29c5f8d15dbbe5f2f41054410217fe08264626f722af7c05e", func := "example.com/itemwise/itemwise/zzlaws_root_b1.FnEscapeEndDecidedByItsOwnBytes", spec := "fnEscapeEndDecidedByItsOwnBytes", make := .lifted ["publicsums"], apart := false }
def FnEscapeEndDecidedByItsOwnBytesSaid : Prop := fnEscapeEndDecidedByItsOwnBytesRow.holds Trym.pinned (OpenSpec.ofChange fnEscapeEndDecidedByItsOwnBytesSpec)

/-- ITS FALSE NEIGHBOUR: 'it returns false'. Refute it at one input. -/
def fnEscapeEndDecidedByItsOwnBytesWrong : ChangeSpec := { name := "fnEscapeEndDecidedByItsOwnBytes", fn := fun _ => fun
  | [d1, d2, d3, d4] => { results := [.lit (.bool false)], args := [d1, d2, d3, d4] }
  | _ => none }
def FnEscapeEndDecidedByItsOwnBytesWrongFalsely : Prop := fnEscapeEndDecidedByItsOwnBytesRow.holds Trym.pinned (OpenSpec.ofChange fnEscapeEndDecidedByItsOwnBytesWrong)

/-- 'zzlaws_root_b1.FnIntegerSizeCountsDigitPairs': WHATEVER THE INPUT: true; the input reads as it did. -/
def fnIntegerSizeCountsDigitPairsSpec : ChangeSpec := { name := "fnIntegerSizeCountsDigitPairs", fn := fun _ => fun
  | [d1, d2] => { results := [.lit (.bool true)], args := [d1, d2] }
  | _ => none }
def fnIntegerSizeCountsDigitPairsRow : OpenClaim := { program := "qxb6600720amods", sum := "d80dc408de588ac29c5f8d15dbbe5f2f41054410217fe08264626f722af7c05e", func := "example.com/itemwise/itemwise/zzlaws_root_b1.FnIntegerSizeCountsDigitPairs", spec := "fnIntegerSizeCountsDigitPairs", make := .lifted ["publicsums"], apart := false }
def FnIntegerSizeCountsDigitPairsSaid : Prop := fnIntegerSizeCountsDigitPairsRow.holds Trym.pinned (OpenSpec.ofChange fnIntegerSizeCountsDigitPairsSpec)

/-- ITS FALSE NEIGHBOUR: 'it returns false'. Refute it at one input. -/
def fnIntegerSizeCountsDigitPairsWrong : ChangeSpec := { name := "fnIntegerSizeCountsDigitPairs", fn := fun _ => fun
  | [d1, d2] => { results := [.lit (.bool false)], args := [d1, d2] }
  | _ => none }
def FnIntegerSizeCountsDigitPairsWrongFalsely : Prop := fnIntegerSizeCountsDigitPairsRow.holds Trym.pinned (OpenSpec.ofChange fnIntegerSizeCountsDigitPairsWrong)

/-- 'zzlaws_root_b1.FnIntegerSizeUnchangedByHundredfold': WHATEVER THE INPUT: true; the input reads as it did. -/
def fnIntegerSizeUnchangedByHundredfoldSpec : ChangeSpec := { name := "fnIntegerSizeUnchangedByHundredfold", fn := fun _ => fun
  | [d1, d2] => { results := [.lit (.bool true)], args := [d1, d2] }
  | _ => none }
def fnIntegerSizeUnchangedByHundredfoldRow : OpenClaim := { program := "qxb6600720amods", sum := "d80dc408de588ac29c5f8d15dbbe5f2f41054410217fe08264626f722af7c05e", func := "example.com/itemwise/itemwise/zzlaws_root_b1.FnIntegerSizeUnchangedByHundredfold", spec := "fnIntegerSizeUnchangedByHundredfold", make := .lifted ["publicsums"], apart := false }
def FnIntegerSizeUnchangedByHundredfoldSaid : Prop := fnIntegerSizeUnchangedByHundredfoldRow.holds Trym.pinned (OpenSpec.ofChange fnIntegerSizeUnchangedByHundredfoldSpec)

/-- ITS FALSE NEIGHBOUR: 'it returns false'. Refute it at one input. -/
def fnIntegerSizeUnchangedByHundredfoldWrong : ChangeSpec := { name := "fnIntegerSizeUnchangedByHundredfold", fn := fun _ => fun
  | [d1, d2] => { results := [.lit (.bool false)], args := [d1, d2] }
  | _ => none }
def FnIntegerSizeUnchangedByHundredfoldWrongFalsely : Prop := fnIntegerSizeUnchangedByHundredfoldRow.holds Trym.pinned (OpenSpec.ofChange fnIntegerSizeUnchangedByHundredfoldWrong)

/-- 'zzlaws_root_b1.FnIntegerSizeSignCostsOneByteAndRange': WHATEVER THE INPUT: true; the input reads as it did. -/
def fnIntegerSizeSignCostsOneByteAndRangeSpec : ChangeSpec := { name := "fnIntegerSizeSignCostsOneByteAndRange", fn := fun _ => fun
  | [d] => { results := [.lit (.bool true)], args := [d] }
  | _ => none }
def fnIntegerSizeSignCostsOneByteAndRangeRow : OpenClaim := { program := "qxb6600720amods", sum := "d80dc408de588ac29c5f8d15dbbe5f2f41054410217fe08264626f722af7c05e", func := "example.com/itemwise/itemwise/zzlaws_root_b1.FnIntegerSizeSignCostsOneByteAndRange", spec := "fnIntegerSizeSignCostsOneByteAndRange", make := .lifted ["publicsums"], apart := false }
def FnIntegerSizeSignCostsOneByteAndRangeSaid : Prop := fnIntegerSizeSignCostsOneByteAndRangeRow.holds Trym.pinned (OpenSpec.ofChange fnIntegerSizeSignCostsOneByteAndRangeSpec)

/-- ITS FALSE NEIGHBOUR: 'it returns false'. Refute it at one input. -/
def fnIntegerSizeSignCostsOneByteAndRangeWrong : ChangeSpec := { name := "fnIntegerSizeSignCostsOneByteAndRange", fn := fun _ => fun
  | [d] => { results := [.lit (.bool false)], args := [d] }
  | _ => none }
def FnIntegerSizeSignCostsOneByteAndRangeWrongFalsely : Prop := fnIntegerSizeSignCostsOneByteAndRangeRow.holds Trym.pinned (OpenSpec.ofChange fnIntegerSizeSignCostsOneByteAndRangeWrong)

end Rows
end Go.Proofs.Qxb6600720aMods
