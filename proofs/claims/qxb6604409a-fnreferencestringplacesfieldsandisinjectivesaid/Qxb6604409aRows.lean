/-
  No cell of these rows narrows 'for every input' (looked for: loops, veiled, ifaces, maps, wideKeys, modest, calm, conditions, laid).
  DERIVED. THE GIVEN ROWS OF THIS SEAT. 3 by the template 'for every input the law returns true; each argument reads behind the call as it read before'; 0 by the template 'total and deterministic' (their statements: Qxb6604409aTotals.lean).
  GIVEN WITH THE SEED: the statements are not yours to turn. If you find one false, say at which input.
  Laid BY PROGRAM, IN A SANDBOX (cutbox-rows.mjs): the forced cells as the released guide's own fill.sh prints them over the translation d4304959bfbf058a… (all of the seat's roots in one cut). By AI agents, Wed Nov 11 2026. No macro, syntax, notation, axiom, sorry.
-/
import Derived.Test.Qxb6604409aChecked
import GoSem.Claim
import GoSem.ClaimJoined
import GoSem.ClaimMapViews
import Derived.JoinedTies
import Derived.KernelRfl
namespace Go.Proofs.Qxb6604409a
/- THE CELL 'sum', in the pinned program and in every row, IS THE sha256 OF THE DUMP (.gsa) THAT Qxb6604409aProg.lean LOADS. Nothing in Lean hashes anything: it is a label: what it is worth is what the hold of that sum in a sandbox is worth. -/
noncomputable def Try.pinned : Pinned := { name := "qxb6604409a", sum := "d4304959bfbf058a7cb1d6a8ae987ce28a9065c415272b4125921912d3f81589", checked := Try.checked }
namespace Rows
def none {H : Type} : Left H := { results := [], args := [] }

/-- 'zzlaws_pkg_containerimage_b1.FnReferenceStringSplitsAtLastColon': WHATEVER THE INPUT: true; the input reads as it did. -/
def fnReferenceStringSplitsAtLastColonSpec : ChangeSpec := { name := "fnReferenceStringSplitsAtLastColon", fn := fun _ => fun
  | [d1, d2] => { results := [.lit (.bool true)], args := [d1, d2] }
  | _ => none }
def fnReferenceStringSplitsAtLastColonRow : OpenClaim := { program := "qxb6604409a", sum := "d4304959bfbf058a7cb1d6a8ae987ce28a9065c415272b4125921912d3f81589", func := "example.com/nodewright/nodewright/zzlaws_pkg_containerimage_b1.FnReferenceStringSplitsAtLastColon", spec := "fnReferenceStringSplitsAtLastColon", apart := false }
def FnReferenceStringSplitsAtLastColonSaid : Prop := fnReferenceStringSplitsAtLastColonRow.holds Try.pinned (OpenSpec.ofChange fnReferenceStringSplitsAtLastColonSpec)

/-- ITS FALSE NEIGHBOUR: 'it returns false'. Refute it at one input. -/
def fnReferenceStringSplitsAtLastColonWrong : ChangeSpec := { name := "fnReferenceStringSplitsAtLastColon", fn := fun _ => fun
  | [d1, d2] => { results := [.lit (.bool false)], args := [d1, d2] }
  | _ => none }
def FnReferenceStringSplitsAtLastColonWrongFalsely : Prop := fnReferenceStringSplitsAtLastColonRow.holds Try.pinned (OpenSpec.ofChange fnReferenceStringSplitsAtLastColonWrong)

/-- 'zzlaws_pkg_containerimage_b1.FnReferenceStringPlacesFieldsAndIsInjective': WHATEVER THE INPUT: true; the input reads as it did. -/
def fnReferenceStringPlacesFieldsAndIsInjectiveSpec : ChangeSpec := { name := "fnReferenceStringPlacesFieldsAndIsInjective", fn := fun _ => fun
  | [d1, d2, d3, d4] => { results := [.lit (.bool true)], args := [d1, d2, d3, d4] }
  | _ => none }
def fnReferenceStringPlacesFieldsAndIsInjectiveRow : OpenClaim := { program := "qxb6604409a", sum := "d4304959bfbf058a7cb1d6a8ae987ce28a9065c415272b4125921912d3f81589", func := "example.com/nodewright/nodewright/zzlaws_pkg_containerimage_b1.FnReferenceStringPlacesFieldsAndIsInjective", spec := "fnReferenceStringPlacesFieldsAndIsInjective", apart := false }
def FnReferenceStringPlacesFieldsAndIsInjectiveSaid : Prop := fnReferenceStringPlacesFieldsAndIsInjectiveRow.holds Try.pinned (OpenSpec.ofChange fnReferenceStringPlacesFieldsAndIsInjectiveSpec)

/-- ITS FALSE NEIGHBOUR: 'it returns false'. Refute it at one input. -/
def fnReferenceStringPlacesFieldsAndIsInjectiveWrong : ChangeSpec := { name := "fnReferenceStringPlacesFieldsAndIsInjective", fn := fun _ => fun
  | [d1, d2, d3, d4] => { results := [.lit (.bool false)], args := [d1, d2, d3, d4] }
  | _ => none }
def FnReferenceStringPlacesFieldsAndIsInjectiveWrongFalsely : Prop := fnReferenceStringPlacesFieldsAndIsInjectiveRow.holds Try.pinned (OpenSpec.ofChange fnReferenceStringPlacesFieldsAndIsInjectiveWrong)

/-- 'zzlaws_pkg_containerimage_b1.FnDescribeMatchesSHA256Model': WHATEVER THE INPUT: true; the input reads as it did. -/
def fnDescribeMatchesSHA256ModelSpec : ChangeSpec := { name := "fnDescribeMatchesSHA256Model", fn := fun _ => fun
  | [d1, d2] => { results := [.lit (.bool true)], args := [d1, d2] }
  | _ => none }
def fnDescribeMatchesSHA256ModelRow : OpenClaim := { program := "qxb6604409a", sum := "d4304959bfbf058a7cb1d6a8ae987ce28a9065c415272b4125921912d3f81589", func := "example.com/nodewright/nodewright/zzlaws_pkg_containerimage_b1.FnDescribeMatchesSHA256Model", spec := "fnDescribeMatchesSHA256Model", unfollowed := true, recurses := true, apart := false }
def FnDescribeMatchesSHA256ModelSaid : Prop := fnDescribeMatchesSHA256ModelRow.holds Try.pinned (OpenSpec.ofChange fnDescribeMatchesSHA256ModelSpec)

/-- ITS FALSE NEIGHBOUR: 'it returns false'. Refute it at one input. -/
def fnDescribeMatchesSHA256ModelWrong : ChangeSpec := { name := "fnDescribeMatchesSHA256Model", fn := fun _ => fun
  | [d1, d2] => { results := [.lit (.bool false)], args := [d1, d2] }
  | _ => none }
def FnDescribeMatchesSHA256ModelWrongFalsely : Prop := fnDescribeMatchesSHA256ModelRow.holds Try.pinned (OpenSpec.ofChange fnDescribeMatchesSHA256ModelWrong)

end Rows
end Go.Proofs.Qxb6604409a
