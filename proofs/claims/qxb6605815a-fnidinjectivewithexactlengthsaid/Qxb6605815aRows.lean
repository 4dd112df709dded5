/-
  No cell of these rows narrows 'for every input' (looked for: loops, veiled, ifaces, maps, wideKeys, modest, calm, conditions, laid).
  DERIVED. THE GIVEN ROWS OF THIS SEAT. 2 by the template 'for every input the law returns true; each argument reads behind the call as it read before'; 0 by the template 'total and deterministic' (their statements: Qxb6605815aTotals.lean).
  GIVEN WITH THE SEED: the statements are not yours to turn. If you find one false, say at which input.
  Laid BY PROGRAM, IN A SANDBOX (cutbox-rows.mjs): the forced cells as the released guide's own fill.sh prints them over the translation 2930098e7b7bf6c9… (all of the seat's roots in one cut). By AI agents, Wed Nov 11 2026. No macro, syntax, notation, axiom, sorry.
-/
import Derived.Test.Qxb6605815aChecked
import GoSem.Claim
import GoSem.ClaimJoined
import GoSem.ClaimMapViews
import Derived.JoinedTies
import Derived.KernelRfl
namespace Go.Proofs.Qxb6605815a
/- THE CELL 'sum', in the pinned program and in every row, IS THE sha256 OF THE DUMP (.gsa) THAT Qxb6605815aProg.lean LOADS. Nothing in Lean hashes anything: it is a label: what it is worth is what the hold of that sum in a sandbox is worth. -/
noncomputable def Try.pinned : Pinned := { name := "qxb6605815a", sum := "2930098e7b7bf6c9539596cd94bb0d1d531675bc89c1d6c976e8a2bf9e0dd047", checked := Try.checked }
namespace Rows
def none {H : Type} : Left H := { results := [], args := [] }

/-- 'zzlaws_internal_sink_b1.FnIDEscapedFormDecodesToKey': WHATEVER THE INPUT: true; the input reads as it did. -/
def fnIDEscapedFormDecodesToKeySpec : ChangeSpec := { name := "fnIDEscapedFormDecodesToKey", fn := fun _ => fun
  | [d1, d2, d3, d4] => { results := [.lit (.bool true)], args := [d1, d2, d3, d4] }
  | _ => none }
def fnIDEscapedFormDecodesToKeyRow : OpenClaim := { program := "qxb6605815a", sum := "2930098e7b7bf6c9539596cd94bb0d1d531675bc89c1d6c976e8a2bf9e0dd047", func := "example.com/onceover/onceover/zzlaws_internal_sink_b1.FnIDEscapedFormDecodesToKey", spec := "fnIDEscapedFormDecodesToKey", inPlace := ["internal/abi.NoEscape", "internal/bytealg.MakeNoZero"], unfollowed := true, recurses := true, apart := false }
def FnIDEscapedFormDecodesToKeySaid : Prop := fnIDEscapedFormDecodesToKeyRow.holds Try.pinned (OpenSpec.ofChange fnIDEscapedFormDecodesToKeySpec)

/-- ITS FALSE NEIGHBOUR: 'it returns false'. Refute it at one input. -/
def fnIDEscapedFormDecodesToKeyWrong : ChangeSpec := { name := "fnIDEscapedFormDecodesToKey", fn := fun _ => fun
  | [d1, d2, d3, d4] => { results := [.lit (.bool false)], args := [d1, d2, d3, d4] }
  | _ => none }
def FnIDEscapedFormDecodesToKeyWrongFalsely : Prop := fnIDEscapedFormDecodesToKeyRow.holds Try.pinned (OpenSpec.ofChange fnIDEscapedFormDecodesToKeyWrong)

/-- 'zzlaws_internal_sink_b1.FnIDInjectiveWithExactLength': WHATEVER THE INPUT: true; the input reads as it did. -/
def fnIDInjectiveWithExactLengthSpec : ChangeSpec := { name := "fnIDInjectiveWithExactLength", fn := fun _ => fun
  | [d1, d2, d3, d4, d5, d6] => { results := [.lit (.bool true)], args := [d1, d2, d3, d4, d5, d6] }
  | _ => none }
def fnIDInjectiveWithExactLengthRow : OpenClaim := { program := "qxb6605815a", sum := "2930098e7b7bf6c9539596cd94bb0d1d531675bc89c1d6c976e8a2bf9e0dd047", func := "example.com/onceover/onceover/zzlaws_internal_sink_b1.FnIDInjectiveWithExactLength", spec := "fnIDInjectiveWithExactLength", inPlace := ["internal/abi.NoEscape", "internal/bytealg.MakeNoZero"], unfollowed := true, recurses := true, apart := false }
def FnIDInjectiveWithExactLengthSaid : Prop := fnIDInjectiveWithExactLengthRow.holds Try.pinned (OpenSpec.ofChange fnIDInjectiveWithExactLengthSpec)

/-- ITS FALSE NEIGHBOUR: 'it returns false'. Refute it at one input. -/
def fnIDInjectiveWithExactLengthWrong : ChangeSpec := { name := "fnIDInjectiveWithExactLength", fn := fun _ => fun
  | [d1, d2, d3, d4, d5, d6] => { results := [.lit (.bool false)], args := [d1, d2, d3, d4, d5, d6] }
  | _ => none }
def FnIDInjectiveWithExactLengthWrongFalsely : Prop := fnIDInjectiveWithExactLengthRow.holds Try.pinned (OpenSpec.ofChange fnIDInjectiveWithExactLengthWrong)

end Rows
end Go.Proofs.Qxb6605815a
