/-
  No cell of these rows narrows 'for every input' (looked for: loops, veiled, ifaces, maps, wideKeys, modest, calm, conditions, laid).
  DERIVED. THE GIVEN ROWS OF THIS SEAT. 8 by the template 'for every input the law returns true; each argument reads behind the call as it read before'; 0 by the template 'total and deterministic' (their statements: Qxb6000857aModsTotals.lean).
  GIVEN WITH THE SEED: the statements are not yours to turn. If you find one false, say at which input.
  Laid BY PROGRAM, IN A SANDBOX (cutbox-rows.mjs): the forced cells as the released guide's own fill.sh prints them over the translation 189f0510ec09b007… (all of the seat's roots in one cut). By AI agents, Wed Nov 11 2026. No macro, syntax, notation, axiom, sorry.
-/
import Derived.Test.Qxb6000857aModsChecked
import GoSem.Claim
import GoSem.ClaimJoined
import GoSem.ClaimMapViews
import Derived.JoinedTies
import Derived.KernelRfl
namespace Go.Proofs.Qxb6000857aMods
/- THE CELL 'sum', in the pinned program and in every row, IS THE sha256 OF THE DUMP (.gsa) THAT Qxb6000857aModsProg.lean LOADS. Nothing in Lean hashes anything: it is a label: what it is worth is what the hold of that sum in a sandbox is worth. -/
noncomputable def Trym.pinned : Pinned := { name := "qxb6000857amods", sum := "189f0510ec09b007c54694fcfdeee6c75e45888b4ec40dd22592873aab7c6c94", checked := Trym.checked }
namespace Rows
def none {H : Type} : Left H := { results := [], args := [] }

/-- 'zzlaws_root_b1.FnChainsMovesAreShortest': WHATEVER THE INPUT: true; the input reads as it did. -/
def fnChainsMovesAreShortestSpec : ChangeSpec := { name := "fnChainsMovesAreShortest", fn := fun _ => fun
  | [d1, d2, d3, d4, d5, d6, d7, d8] => { results := [.lit (.bool true)], args := [d1, d2, d3, d4, d5, d6, d7, d8] }
  | _ => none }
def fnChainsMovesAreShortestRow : OpenClaim := { program := "qxb6000857amods", sum := "189f0510ec09b007c54694fcfdeee6c75e45888b4ec40dd22592873aab7c6c94", func := "example.com/duties-over-partitions/duties-over-partitions/zzlaws_root_b1.FnChainsMovesAreShortest", spec := "fnChainsMovesAreShortest", make := .lifted ["publicsums"], apart := false }
def FnChainsMovesAreShortestSaid : Prop := fnChainsMovesAreShortestRow.holds Trym.pinned (OpenSpec.ofChange fnChainsMovesAreShortestSpec)

/-- ITS FALSE NEIGHBOUR: 'it returns false'. Refute it at one input. -/
def fnChainsMovesAreShortestWrong : ChangeSpec := { name := "fnChainsMovesAreShortest", fn := fun _ => fun
  | [d1, d2, d3, d4, d5, d6, d7, d8] => { results := [.lit (.bool false)], args := [d1, d2, d3, d4, d5, d6, d7, d8] }
  | _ => none }
def FnChainsMovesAreShortestWrongFalsely : Prop := fnChainsMovesAreShortestRow.holds Trym.pinned (OpenSpec.ofChange fnChainsMovesAreShortestWrong)

/-- 'zzlaws_root_b1.FnChainsLinksFormChains': WHATEVER THE INPUT: true; the input reads as it did. -/
def fnChainsLinksFormChainsSpec : ChangeSpec := { name := "fnChainsLinksFormChains", fn := fun _ => fun
  | [d1, d2, d3, d4, d5, d6, d7, d8] => { results := [.lit (.bool true)], args := [d1, d2, d3, d4, d5, d6, d7, d8] }
  | _ => none }
def fnChainsLinksFormChainsRow : OpenClaim := { program := "qxb6000857amods", sum := "189f0510ec09b007c54694fcfdeee6c75e45888b4ec40dd22592873aab7c6c94", func := "example.com/duties-over-partitions/duties-over-partitions/zzlaws_root_b1.FnChainsLinksFormChains", spec := "fnChainsLinksFormChains", make := .lifted ["publicsums"], apart := false }
def FnChainsLinksFormChainsSaid : Prop := fnChainsLinksFormChainsRow.holds Trym.pinned (OpenSpec.ofChange fnChainsLinksFormChainsSpec)

/-- ITS FALSE NEIGHBOUR: 'it returns false'. Refute it at one input. -/
def fnChainsLinksFormChainsWrong : ChangeSpec := { name := "fnChainsLinksFormChains", fn := fun _ => fun
  | [d1, d2, d3, d4, d5, d6, d7, d8] => { results := [.lit (.bool false)], args := [d1, d2, d3, d4, d5, d6, d7, d8] }
  | _ => none }
def FnChainsLinksFormChainsWrongFalsely : Prop := fnChainsLinksFormChainsRow.holds Trym.pinned (OpenSpec.ofChange fnChainsLinksFormChainsWrong)

/-- 'zzlaws_root_b1.FnChainsMonotoneInActive': WHATEVER THE INPUT: true; the input reads as it did. -/
def fnChainsMonotoneInActiveSpec : ChangeSpec := { name := "fnChainsMonotoneInActive", fn := fun _ => fun
  | [d1, d2, d3, d4, d5, d6, d7, d8, d9] => { results := [.lit (.bool true)], args := [d1, d2, d3, d4, d5, d6, d7, d8, d9] }
  | _ => none }
def fnChainsMonotoneInActiveRow : OpenClaim := { program := "qxb6000857amods", sum := "189f0510ec09b007c54694fcfdeee6c75e45888b4ec40dd22592873aab7c6c94", func := "example.com/duties-over-partitions/duties-over-partitions/zzlaws_root_b1.FnChainsMonotoneInActive", spec := "fnChainsMonotoneInActive", make := .lifted ["publicsums"], apart := false }
def FnChainsMonotoneInActiveSaid : Prop := fnChainsMonotoneInActiveRow.holds Trym.pinned (OpenSpec.ofChange fnChainsMonotoneInActiveSpec)

/-- ITS FALSE NEIGHBOUR: 'it returns false'. Refute it at one input. -/
def fnChainsMonotoneInActiveWrong : ChangeSpec := { name := "fnChainsMonotoneInActive", fn := fun _ => fun
  | [d1, d2, d3, d4, d5, d6, d7, d8, d9] => { results := [.lit (.bool false)], args := [d1, d2, d3, d4, d5, d6, d7, d8, d9] }
  | _ => none }
def FnChainsMonotoneInActiveWrongFalsely : Prop := fnChainsMonotoneInActiveRow.holds Trym.pinned (OpenSpec.ofChange fnChainsMonotoneInActiveWrong)

/-- 'zzlaws_root_b1.FnGivingPartsRecordsWhatIsGiven': WHATEVER THE INPUT: true; the input reads as it did. -/
def fnGivingPartsRecordsWhatIsGivenSpec : ChangeSpec := { name := "fnGivingPartsRecordsWhatIsGiven", fn := fun _ => fun
  | [d1, d2, d3, d4, d5, d6] => { results := [.lit (.bool true)], args := [d1, d2, d3, d4, d5, d6] }
  | _ => none }
def fnGivingPartsRecordsWhatIsGivenRow : OpenClaim := { program := "qxb6000857amods", sum := "189f0510ec09b007c54694fcfdeee6c75e45888b4ec40dd22592873aab7c6c94", func := "example.com/duties-over-partitions/duties-over-partitions/zzlaws_root_b1.FnGivingPartsRecordsWhatIsGiven", spec := "fnGivingPartsRecordsWhatIsGiven", make := .lifted ["publicsums"], apart := false }
def FnGivingPartsRecordsWhatIsGivenSaid : Prop := fnGivingPartsRecordsWhatIsGivenRow.holds Trym.pinned (OpenSpec.ofChange fnGivingPartsRecordsWhatIsGivenSpec)

/-- ITS FALSE NEIGHBOUR: 'it returns false'. Refute it at one input. -/
def fnGivingPartsRecordsWhatIsGivenWrong : ChangeSpec := { name := "fnGivingPartsRecordsWhatIsGiven", fn := fun _ => fun
  | [d1, d2, d3, d4, d5, d6] => { results := [.lit (.bool false)], args := [d1, d2, d3, d4, d5, d6] }
  | _ => none }
def FnGivingPartsRecordsWhatIsGivenWrongFalsely : Prop := fnGivingPartsRecordsWhatIsGivenRow.holds Trym.pinned (OpenSpec.ofChange fnGivingPartsRecordsWhatIsGivenWrong)

/-- 'zzlaws_root_b1.FnGivingAddThenTakeIsUndone': WHATEVER THE INPUT: true; the input reads as it did. -/
def fnGivingAddThenTakeIsUndoneSpec : ChangeSpec := { name := "fnGivingAddThenTakeIsUndone", fn := fun _ => fun
  | [d1, d2, d3, d4, d5, d6, d7, d8, d9] => { results := [.lit (.bool true)], args := [d1, d2, d3, d4, d5, d6, d7, d8, d9] }
  | _ => none }
def fnGivingAddThenTakeIsUndoneRow : OpenClaim := { program := "qxb6000857amods", sum := "189f0510ec09b007c54694fcfdeee6c75e45888b4ec40dd22592873aab7c6c94", func := "example.com/duties-over-partitions/duties-over-partitions/zzlaws_root_b1.FnGivingAddThenTakeIsUndone", spec := "fnGivingAddThenTakeIsUndone", make := .lifted ["publicsums"], apart := false }
def FnGivingAddThenTakeIsUndoneSaid : Prop := fnGivingAddThenTakeIsUndoneRow.holds Trym.pinned (OpenSpec.ofChange fnGivingAddThenTakeIsUndoneSpec)

/-- ITS FALSE NEIGHBOUR: 'it returns false'. Refute it at one input. -/
def fnGivingAddThenTakeIsUndoneWrong : ChangeSpec := { name := "fnGivingAddThenTakeIsUndone", fn := fun _ => fun
  | [d1, d2, d3, d4, d5, d6, d7, d8, d9] => { results := [.lit (.bool false)], args := [d1, d2, d3, d4, d5, d6, d7, d8, d9] }
  | _ => none }
def FnGivingAddThenTakeIsUndoneWrongFalsely : Prop := fnGivingAddThenTakeIsUndoneRow.holds Trym.pinned (OpenSpec.ofChange fnGivingAddThenTakeIsUndoneWrong)

/-- 'zzlaws_root_b1.FnBalanceConservesParts': WHATEVER THE INPUT: true; the input reads as it did. -/
def fnBalanceConservesPartsSpec : ChangeSpec := { name := "fnBalanceConservesParts", fn := fun _ => fun
  | [d1, d2, d3, d4, d5, d6] => { results := [.lit (.bool true)], args := [d1, d2, d3, d4, d5, d6] }
  | _ => none }
def fnBalanceConservesPartsRow : OpenClaim := { program := "qxb6000857amods", sum := "189f0510ec09b007c54694fcfdeee6c75e45888b4ec40dd22592873aab7c6c94", func := "example.com/duties-over-partitions/duties-over-partitions/zzlaws_root_b1.FnBalanceConservesParts", spec := "fnBalanceConservesParts", unfollowed := true, recurses := true, make := .lifted ["publicsums"], apart := false }
def FnBalanceConservesPartsSaid : Prop := fnBalanceConservesPartsRow.holds Trym.pinned (OpenSpec.ofChange fnBalanceConservesPartsSpec)

/-- ITS FALSE NEIGHBOUR: 'it returns false'. Refute it at one input. -/
def fnBalanceConservesPartsWrong : ChangeSpec := { name := "fnBalanceConservesParts", fn := fun _ => fun
  | [d1, d2, d3, d4, d5, d6] => { results := [.lit (.bool false)], args := [d1, d2, d3, d4, d5, d6] }
  | _ => none }
def FnBalanceConservesPartsWrongFalsely : Prop := fnBalanceConservesPartsRow.holds Trym.pinned (OpenSpec.ofChange fnBalanceConservesPartsWrong)

/-- 'zzlaws_root_b1.FnBalanceKeepsEligibility': WHATEVER THE INPUT: true; the input reads as it did. -/
def fnBalanceKeepsEligibilitySpec : ChangeSpec := { name := "fnBalanceKeepsEligibility", fn := fun _ => fun
  | [d1, d2, d3, d4, d5, d6] => { results := [.lit (.bool true)], args := [d1, d2, d3, d4, d5, d6] }
  | _ => none }
def fnBalanceKeepsEligibilityRow : OpenClaim := { program := "qxb6000857amods", sum := "189f0510ec09b007c54694fcfdeee6c75e45888b4ec40dd22592873aab7c6c94", func := "example.com/duties-over-partitions/duties-over-partitions/zzlaws_root_b1.FnBalanceKeepsEligibility", spec := "fnBalanceKeepsEligibility", unfollowed := true, recurses := true, make := .lifted ["publicsums"], apart := false }
def FnBalanceKeepsEligibilitySaid : Prop := fnBalanceKeepsEligibilityRow.holds Trym.pinned (OpenSpec.ofChange fnBalanceKeepsEligibilitySpec)

/-- ITS FALSE NEIGHBOUR: 'it returns false'. Refute it at one input. -/
def fnBalanceKeepsEligibilityWrong : ChangeSpec := { name := "fnBalanceKeepsEligibility", fn := fun _ => fun
  | [d1, d2, d3, d4, d5, d6] => { results := [.lit (.bool false)], args := [d1, d2, d3, d4, d5, d6] }
  | _ => none }
def FnBalanceKeepsEligibilityWrongFalsely : Prop := fnBalanceKeepsEligibilityRow.holds Trym.pinned (OpenSpec.ofChange fnBalanceKeepsEligibilityWrong)

/-- 'zzlaws_root_b1.FnBalanceIsIdempotent': WHATEVER THE INPUT: true; the input reads as it did. -/
def fnBalanceIsIdempotentSpec : ChangeSpec := { name := "fnBalanceIsIdempotent", fn := fun _ => fun
  | [d1, d2, d3, d4, d5, d6] => { results := [.lit (.bool true)], args := [d1, d2, d3, d4, d5, d6] }
  | _ => none }
def fnBalanceIsIdempotentRow : OpenClaim := { program := "qxb6000857amods", sum := "189f0510ec09b007c54694fcfdeee6c75e45888b4ec40dd22592873aab7c6c94", func := "example.com/duties-over-partitions/duties-over-partitions/zzlaws_root_b1.FnBalanceIsIdempotent", spec := "fnBalanceIsIdempotent", unfollowed := true, recurses := true, make := .lifted ["publicsums"], apart := false }
def FnBalanceIsIdempotentSaid : Prop := fnBalanceIsIdempotentRow.holds Trym.pinned (OpenSpec.ofChange fnBalanceIsIdempotentSpec)

/-- ITS FALSE NEIGHBOUR: 'it returns false'. Refute it at one input. -/
def fnBalanceIsIdempotentWrong : ChangeSpec := { name := "fnBalanceIsIdempotent", fn := fun _ => fun
  | [d1, d2, d3, d4, d5, d6] => { results := [.lit (.bool false)], args := [d1, d2, d3, d4, d5, d6] }
  | _ => none }
def FnBalanceIsIdempotentWrongFalsely : Prop := fnBalanceIsIdempotentRow.holds Trym.pinned (OpenSpec.ofChange fnBalanceIsIdempotentWrong)

end Rows
end Go.Proofs.Qxb6000857aMods
