/-
  NARROWER THAN 'FOR EVERY INPUT', by the rows' own cells (each row's printed sentence says how): FnFindAgreesWithEntries: maps · FnFindScriptStaysTrue: maps.
  DERIVED. THE GIVEN ROWS OF THIS SEAT. 5 by the template 'for every input the law returns true; each argument reads behind the call as it read before'; 0 by the template 'total and deterministic' (their statements: Qxb6603144aTotals.lean).
  GIVEN WITH THE SEED: the statements are not yours to turn. If you find one false, say at which input.
  Laid BY PROGRAM, IN A SANDBOX (cutbox-rows.mjs): the forced cells as the released guide's own fill.sh prints them over the translation 82dcd3fb8b22bec7… (all of the seat's roots in one cut). By AI agents, Wed Nov 11 2026. No macro, syntax, notation, axiom, sorry.
-/
import Derived.Test.Qxb6603144aChecked
import GoSem.Claim
import GoSem.ClaimJoined
import GoSem.ClaimMapViews
import Derived.JoinedTies
import Derived.KernelRfl
namespace Go.Proofs.Qxb6603144a
/- THE CELL 'sum', in the pinned program and in every row, IS THE sha256 OF THE DUMP (.gsa) THAT Qxb6603144aProg.lean LOADS. Nothing in Lean hashes anything: it is a label: what it is worth is what the hold of that sum in a sandbox is worth. -/
noncomputable def Try.pinned : Pinned := { name := "qxb6603144a", sum := "82dcd3fb8b22bec7a2b6d796d1c25c3c96ec92776b4bca4e9b891f0708641c4f", checked := Try.checked }
namespace Rows
def none {H : Type} : Left H := { results := [], args := [] }

/-- 'zzlaws_internal_layout_b1.FnSameKeyIsByteEquality': WHATEVER THE INPUT: true; the input reads as it did. -/
def fnSameKeyIsByteEqualitySpec : ChangeSpec := { name := "fnSameKeyIsByteEquality", fn := fun _ => fun
  | [d1, d2] => { results := [.lit (.bool true)], args := [d1, d2] }
  | _ => none }
def fnSameKeyIsByteEqualityRow : OpenClaim := { program := "qxb6603144a", sum := "82dcd3fb8b22bec7a2b6d796d1c25c3c96ec92776b4bca4e9b891f0708641c4f", func := "example.com/fieldnote/fieldnote/zzlaws_internal_layout_b1.FnSameKeyIsByteEquality", spec := "fnSameKeyIsByteEquality", apart := false }
def FnSameKeyIsByteEqualitySaid : Prop := fnSameKeyIsByteEqualityRow.holds Try.pinned (OpenSpec.ofChange fnSameKeyIsByteEqualitySpec)

/-- ITS FALSE NEIGHBOUR: 'it returns false'. Refute it at one input. -/
def fnSameKeyIsByteEqualityWrong : ChangeSpec := { name := "fnSameKeyIsByteEquality", fn := fun _ => fun
  | [d1, d2] => { results := [.lit (.bool false)], args := [d1, d2] }
  | _ => none }
def FnSameKeyIsByteEqualityWrongFalsely : Prop := fnSameKeyIsByteEqualityRow.holds Try.pinned (OpenSpec.ofChange fnSameKeyIsByteEqualityWrong)

/-- 'zzlaws_internal_layout_b1.FnSameKeyMissesNoByte': WHATEVER THE INPUT: true; the input reads as it did. -/
def fnSameKeyMissesNoByteSpec : ChangeSpec := { name := "fnSameKeyMissesNoByte", fn := fun _ => fun
  | [d1, d2, d3] => { results := [.lit (.bool true)], args := [d1, d2, d3] }
  | _ => none }
def fnSameKeyMissesNoByteRow : OpenClaim := { program := "qxb6603144a", sum := "82dcd3fb8b22bec7a2b6d796d1c25c3c96ec92776b4bca4e9b891f0708641c4f", func := "example.com/fieldnote/fieldnote/zzlaws_internal_layout_b1.FnSameKeyMissesNoByte", spec := "fnSameKeyMissesNoByte", apart := false }
def FnSameKeyMissesNoByteSaid : Prop := fnSameKeyMissesNoByteRow.holds Try.pinned (OpenSpec.ofChange fnSameKeyMissesNoByteSpec)

/-- ITS FALSE NEIGHBOUR: 'it returns false'. Refute it at one input. -/
def fnSameKeyMissesNoByteWrong : ChangeSpec := { name := "fnSameKeyMissesNoByte", fn := fun _ => fun
  | [d1, d2, d3] => { results := [.lit (.bool false)], args := [d1, d2, d3] }
  | _ => none }
def FnSameKeyMissesNoByteWrongFalsely : Prop := fnSameKeyMissesNoByteRow.holds Try.pinned (OpenSpec.ofChange fnSameKeyMissesNoByteWrong)

/-- 'zzlaws_internal_layout_b1.FnQuickHashReadsOnlyItsWindows': WHATEVER THE INPUT: true; the input reads as it did. -/
def fnQuickHashReadsOnlyItsWindowsSpec : ChangeSpec := { name := "fnQuickHashReadsOnlyItsWindows", fn := fun _ => fun
  | [d1, d2] => { results := [.lit (.bool true)], args := [d1, d2] }
  | _ => none }
def fnQuickHashReadsOnlyItsWindowsRow : OpenClaim := { program := "qxb6603144a", sum := "82dcd3fb8b22bec7a2b6d796d1c25c3c96ec92776b4bca4e9b891f0708641c4f", func := "example.com/fieldnote/fieldnote/zzlaws_internal_layout_b1.FnQuickHashReadsOnlyItsWindows", spec := "fnQuickHashReadsOnlyItsWindows", apart := false }
def FnQuickHashReadsOnlyItsWindowsSaid : Prop := fnQuickHashReadsOnlyItsWindowsRow.holds Try.pinned (OpenSpec.ofChange fnQuickHashReadsOnlyItsWindowsSpec)

/-- ITS FALSE NEIGHBOUR: 'it returns false'. Refute it at one input. -/
def fnQuickHashReadsOnlyItsWindowsWrong : ChangeSpec := { name := "fnQuickHashReadsOnlyItsWindows", fn := fun _ => fun
  | [d1, d2] => { results := [.lit (.bool false)], args := [d1, d2] }
  | _ => none }
def FnQuickHashReadsOnlyItsWindowsWrongFalsely : Prop := fnQuickHashReadsOnlyItsWindowsRow.holds Try.pinned (OpenSpec.ofChange fnQuickHashReadsOnlyItsWindowsWrong)

/-- 'zzlaws_internal_layout_b1.FnFindAgreesWithEntries': WHATEVER THE INPUT: true; the input reads as it did. -/
def fnFindAgreesWithEntriesSpec : ChangeSpec := { name := "fnFindAgreesWithEntries", fn := fun _ => fun
  | [d1, d2, d3, d4, d5] => { results := [.lit (.bool true)], args := [d1, d2, d3, d4, d5] }
  | _ => none }
def fnFindAgreesWithEntriesRow : OpenClaim := { program := "qxb6603144a", sum := "82dcd3fb8b22bec7a2b6d796d1c25c3c96ec92776b4bca4e9b891f0708641c4f", func := "example.com/fieldnote/fieldnote/zzlaws_internal_layout_b1.FnFindAgreesWithEntries", spec := "fnFindAgreesWithEntries", maps := true, apart := false }
def FnFindAgreesWithEntriesSaid : Prop := fnFindAgreesWithEntriesRow.holds Try.pinned (OpenSpec.ofChange fnFindAgreesWithEntriesSpec)

/-- ITS FALSE NEIGHBOUR: 'it returns false'. Refute it at one input. -/
def fnFindAgreesWithEntriesWrong : ChangeSpec := { name := "fnFindAgreesWithEntries", fn := fun _ => fun
  | [d1, d2, d3, d4, d5] => { results := [.lit (.bool false)], args := [d1, d2, d3, d4, d5] }
  | _ => none }
def FnFindAgreesWithEntriesWrongFalsely : Prop := fnFindAgreesWithEntriesRow.holds Try.pinned (OpenSpec.ofChange fnFindAgreesWithEntriesWrong)

/-- 'zzlaws_internal_layout_b1.FnFindScriptStaysTrue': WHATEVER THE INPUT: true; the input reads as it did. -/
def fnFindScriptStaysTrueSpec : ChangeSpec := { name := "fnFindScriptStaysTrue", fn := fun _ => fun
  | [d1, d2, d3, d4, d5] => { results := [.lit (.bool true)], args := [d1, d2, d3, d4, d5] }
  | _ => none }
def fnFindScriptStaysTrueRow : OpenClaim := { program := "qxb6603144a", sum := "82dcd3fb8b22bec7a2b6d796d1c25c3c96ec92776b4bca4e9b891f0708641c4f", func := "example.com/fieldnote/fieldnote/zzlaws_internal_layout_b1.FnFindScriptStaysTrue", spec := "fnFindScriptStaysTrue", maps := true, apart := false }
def FnFindScriptStaysTrueSaid : Prop := fnFindScriptStaysTrueRow.holds Try.pinned (OpenSpec.ofChange fnFindScriptStaysTrueSpec)

/-- ITS FALSE NEIGHBOUR: 'it returns false'. Refute it at one input. -/
def fnFindScriptStaysTrueWrong : ChangeSpec := { name := "fnFindScriptStaysTrue", fn := fun _ => fun
  | [d1, d2, d3, d4, d5] => { results := [.lit (.bool false)], args := [d1, d2, d3, d4, d5] }
  | _ => none }
def FnFindScriptStaysTrueWrongFalsely : Prop := fnFindScriptStaysTrueRow.holds Try.pinned (OpenSpec.ofChange fnFindScriptStaysTrueWrong)

end Rows
end Go.Proofs.Qxb6603144a
