/-
  No cell of these rows narrows 'for every input' (looked for: loops, veiled, ifaces, maps, wideKeys, modest, calm, conditions, laid).
  DERIVED. THE GIVEN ROWS OF THIS SEAT. 5 by the template 'for every input the law returns true; each argument reads behind the call as it read before'; 0 by the template 'total and deterministic' (their statements: Qxb6603240aTotals.lean).
  GIVEN WITH THE SEED: the statements are not yours to turn. If you find one false, say at which input.
  Laid BY PROGRAM, IN A SANDBOX (cutbox-rows.mjs): the forced cells as the released guide's own fill.sh prints them over the translation 0e5eb40e93eb8064… (all of the seat's roots in one cut). By AI agents, Wed Nov 11 2026. No macro, syntax, notation, axiom, sorry.
-/
import Derived.Test.Qxb6603240aChecked
import GoSem.Claim
import GoSem.ClaimJoined
import GoSem.ClaimMapViews
import Derived.JoinedTies
import Derived.KernelRfl
namespace Go.Proofs.Qxb6603240a
/- THE CELL 'sum', in the pinned program and in every row, IS THE sha256 OF THE DUMP (.gsa) THAT Qxb6603240aProg.lean LOADS. Nothing in Lean hashes anything: it is a label: what it is worth is what the hold of that sum in a sandbox is worth. -/
noncomputable def Try.pinned : Pinned := { name := "qxb6603240a", sum := "0e5eb40e93eb80645daf8465b8427334616a920fa1a5133fad63c522745e57cc", checked := Try.checked }
namespace Rows
def none {H : Type} : Left H := { results := [], args := [] }

/-- 'zzlaws_pkg_roster_b1.FnWalkMatchesConditionedReach': WHATEVER THE INPUT: true; the input reads as it did. -/
def fnWalkMatchesConditionedReachSpec : ChangeSpec := { name := "fnWalkMatchesConditionedReach", fn := fun _ => fun
  | [d1, d2, d3, d4, d5] => { results := [.lit (.bool true)], args := [d1, d2, d3, d4, d5] }
  | _ => none }
def fnWalkMatchesConditionedReachRow : OpenClaim := { program := "qxb6603240a", sum := "0e5eb40e93eb80645daf8465b8427334616a920fa1a5133fad63c522745e57cc", func := "example.com/clusterweave/clusterweave/zzlaws_pkg_roster_b1.FnWalkMatchesConditionedReach", spec := "fnWalkMatchesConditionedReach", apart := false }
def FnWalkMatchesConditionedReachSaid : Prop := fnWalkMatchesConditionedReachRow.holds Try.pinned (OpenSpec.ofChange fnWalkMatchesConditionedReachSpec)

/-- ITS FALSE NEIGHBOUR: 'it returns false'. Refute it at one input. -/
def fnWalkMatchesConditionedReachWrong : ChangeSpec := { name := "fnWalkMatchesConditionedReach", fn := fun _ => fun
  | [d1, d2, d3, d4, d5] => { results := [.lit (.bool false)], args := [d1, d2, d3, d4, d5] }
  | _ => none }
def FnWalkMatchesConditionedReachWrongFalsely : Prop := fnWalkMatchesConditionedReachRow.holds Try.pinned (OpenSpec.ofChange fnWalkMatchesConditionedReachWrong)

/-- 'zzlaws_pkg_roster_b1.FnWalkTwiceFromSameStartChangesNothing': WHATEVER THE INPUT: true; the input reads as it did. -/
def fnWalkTwiceFromSameStartChangesNothingSpec : ChangeSpec := { name := "fnWalkTwiceFromSameStartChangesNothing", fn := fun _ => fun
  | [d1, d2, d3, d4, d5] => { results := [.lit (.bool true)], args := [d1, d2, d3, d4, d5] }
  | _ => none }
def fnWalkTwiceFromSameStartChangesNothingRow : OpenClaim := { program := "qxb6603240a", sum := "0e5eb40e93eb80645daf8465b8427334616a920fa1a5133fad63c522745e57cc", func := "example.com/clusterweave/clusterweave/zzlaws_pkg_roster_b1.FnWalkTwiceFromSameStartChangesNothing", spec := "fnWalkTwiceFromSameStartChangesNothing", apart := false }
def FnWalkTwiceFromSameStartChangesNothingSaid : Prop := fnWalkTwiceFromSameStartChangesNothingRow.holds Try.pinned (OpenSpec.ofChange fnWalkTwiceFromSameStartChangesNothingSpec)

/-- ITS FALSE NEIGHBOUR: 'it returns false'. Refute it at one input. -/
def fnWalkTwiceFromSameStartChangesNothingWrong : ChangeSpec := { name := "fnWalkTwiceFromSameStartChangesNothing", fn := fun _ => fun
  | [d1, d2, d3, d4, d5] => { results := [.lit (.bool false)], args := [d1, d2, d3, d4, d5] }
  | _ => none }
def FnWalkTwiceFromSameStartChangesNothingWrongFalsely : Prop := fnWalkTwiceFromSameStartChangesNothingRow.holds Try.pinned (OpenSpec.ofChange fnWalkTwiceFromSameStartChangesNothingWrong)

/-- 'zzlaws_pkg_roster_b1.FnTwoWalksLeaveMultiSourceDistances': WHATEVER THE INPUT: true; the input reads as it did. -/
def fnTwoWalksLeaveMultiSourceDistancesSpec : ChangeSpec := { name := "fnTwoWalksLeaveMultiSourceDistances", fn := fun _ => fun
  | [d1, d2, d3, d4, d5, d6] => { results := [.lit (.bool true)], args := [d1, d2, d3, d4, d5, d6] }
  | _ => none }
def fnTwoWalksLeaveMultiSourceDistancesRow : OpenClaim := { program := "qxb6603240a", sum := "0e5eb40e93eb80645daf8465b8427334616a920fa1a5133fad63c522745e57cc", func := "example.com/clusterweave/clusterweave/zzlaws_pkg_roster_b1.FnTwoWalksLeaveMultiSourceDistances", spec := "fnTwoWalksLeaveMultiSourceDistances", apart := false }
def FnTwoWalksLeaveMultiSourceDistancesSaid : Prop := fnTwoWalksLeaveMultiSourceDistancesRow.holds Try.pinned (OpenSpec.ofChange fnTwoWalksLeaveMultiSourceDistancesSpec)

/-- ITS FALSE NEIGHBOUR: 'it returns false'. Refute it at one input. -/
def fnTwoWalksLeaveMultiSourceDistancesWrong : ChangeSpec := { name := "fnTwoWalksLeaveMultiSourceDistances", fn := fun _ => fun
  | [d1, d2, d3, d4, d5, d6] => { results := [.lit (.bool false)], args := [d1, d2, d3, d4, d5, d6] }
  | _ => none }
def FnTwoWalksLeaveMultiSourceDistancesWrongFalsely : Prop := fnTwoWalksLeaveMultiSourceDistancesRow.holds Try.pinned (OpenSpec.ofChange fnTwoWalksLeaveMultiSourceDistancesWrong)

/-- 'zzlaws_pkg_roster_b1.FnCountLinksMatchesTallyOverLiveSet': WHATEVER THE INPUT: true; the input reads as it did. -/
def fnCountLinksMatchesTallyOverLiveSetSpec : ChangeSpec := { name := "fnCountLinksMatchesTallyOverLiveSet", fn := fun _ => fun
  | [d1, d2, d3] => { results := [.lit (.bool true)], args := [d1, d2, d3] }
  | _ => none }
def fnCountLinksMatchesTallyOverLiveSetRow : OpenClaim := { program := "qxb6603240a", sum := "0e5eb40e93eb80645daf8465b8427334616a920fa1a5133fad63c522745e57cc", func := "example.com/clusterweave/clusterweave/zzlaws_pkg_roster_b1.FnCountLinksMatchesTallyOverLiveSet", spec := "fnCountLinksMatchesTallyOverLiveSet", apart := false }
def FnCountLinksMatchesTallyOverLiveSetSaid : Prop := fnCountLinksMatchesTallyOverLiveSetRow.holds Try.pinned (OpenSpec.ofChange fnCountLinksMatchesTallyOverLiveSetSpec)

/-- ITS FALSE NEIGHBOUR: 'it returns false'. Refute it at one input. -/
def fnCountLinksMatchesTallyOverLiveSetWrong : ChangeSpec := { name := "fnCountLinksMatchesTallyOverLiveSet", fn := fun _ => fun
  | [d1, d2, d3] => { results := [.lit (.bool false)], args := [d1, d2, d3] }
  | _ => none }
def FnCountLinksMatchesTallyOverLiveSetWrongFalsely : Prop := fnCountLinksMatchesTallyOverLiveSetRow.holds Try.pinned (OpenSpec.ofChange fnCountLinksMatchesTallyOverLiveSetWrong)

/-- 'zzlaws_pkg_roster_b1.FnCountLinksSplitsByLiveAndItsComplement': WHATEVER THE INPUT: true; the input reads as it did. -/
def fnCountLinksSplitsByLiveAndItsComplementSpec : ChangeSpec := { name := "fnCountLinksSplitsByLiveAndItsComplement", fn := fun _ => fun
  | [d1, d2, d3] => { results := [.lit (.bool true)], args := [d1, d2, d3] }
  | _ => none }
def fnCountLinksSplitsByLiveAndItsComplementRow : OpenClaim := { program := "qxb6603240a", sum := "0e5eb40e93eb80645daf8465b8427334616a920fa1a5133fad63c522745e57cc", func := "example.com/clusterweave/clusterweave/zzlaws_pkg_roster_b1.FnCountLinksSplitsByLiveAndItsComplement", spec := "fnCountLinksSplitsByLiveAndItsComplement", apart := false }
def FnCountLinksSplitsByLiveAndItsComplementSaid : Prop := fnCountLinksSplitsByLiveAndItsComplementRow.holds Try.pinned (OpenSpec.ofChange fnCountLinksSplitsByLiveAndItsComplementSpec)

/-- ITS FALSE NEIGHBOUR: 'it returns false'. Refute it at one input. -/
def fnCountLinksSplitsByLiveAndItsComplementWrong : ChangeSpec := { name := "fnCountLinksSplitsByLiveAndItsComplement", fn := fun _ => fun
  | [d1, d2, d3] => { results := [.lit (.bool false)], args := [d1, d2, d3] }
  | _ => none }
def FnCountLinksSplitsByLiveAndItsComplementWrongFalsely : Prop := fnCountLinksSplitsByLiveAndItsComplementRow.holds Try.pinned (OpenSpec.ofChange fnCountLinksSplitsByLiveAndItsComplementWrong)

end Rows
end Go.Proofs.Qxb6603240a
