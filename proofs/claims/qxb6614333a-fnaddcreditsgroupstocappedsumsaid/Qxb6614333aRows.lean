/-
  No cell of these rows narrows 'for every input' (looked for: loops, veiled, ifaces, maps, wideKeys, modest, calm, conditions, laid).
  DERIVED. THE GIVEN ROWS OF THIS SEAT. 1 by the template 'for every input the law returns true; each argument reads behind the call as it read before'; 0 by the template 'total and deterministic' (their statements: Qxb6614333aTotals.lean).
  GIVEN WITH THE SEED: the statements are not yours to turn. If you find one false, say at which input.
  Laid BY PROGRAM, IN A SANDBOX (cutbox-rows.mjs): the forced cells as the released guide's own fill.sh prints them over the translation 05479d4bea47c55f… (all of the seat's roots in one cut). By AI agents, Wed Nov 11 2026. No macro, syntax, notation, axiom, sorry.
-/
import Derived.Test.Qxb6614333aChecked
import GoSem.Claim
import GoSem.ClaimJoined
import GoSem.ClaimMapViews
import Derived.JoinedTies
import Derived.KernelRfl
namespace Go.Proofs.Qxb6614333a
/- THE CELL 'sum', in the pinned program and in every row, IS THE sha256 OF THE DUMP (.gsa) THAT Qxb6614333aProg.lean LOADS. Nothing in Lean hashes anything: it is a label: what it is worth is what the hold of that sum in a sandbox is worth. -/
noncomputable def Try.pinned : Pinned := { name := "qxb6614333a", sum := "05479d4bea47c55f6e0fbefef9985e178ee07f3cc70038ad7c77b72b09ebb7e3", checked := Try.checked }
namespace Rows
def none {H : Type} : Left H := { results := [], args := [] }

/-- 'zzlaws_internal_broker_b1.FnAddCreditsGroupsToCappedSum': WHATEVER THE INPUT: true; the input reads as it did. -/
def fnAddCreditsGroupsToCappedSumSpec : ChangeSpec := { name := "fnAddCreditsGroupsToCappedSum", fn := fun _ => fun
  | [d1, d2, d3] => { results := [.lit (.bool true)], args := [d1, d2, d3] }
  | _ => none }
def fnAddCreditsGroupsToCappedSumRow : OpenClaim := { program := "qxb6614333a", sum := "05479d4bea47c55f6e0fbefef9985e178ee07f3cc70038ad7c77b72b09ebb7e3", func := "example.com/ripplewire/ripplewire/zzlaws_internal_broker_b1.FnAddCreditsGroupsToCappedSum", spec := "fnAddCreditsGroupsToCappedSum", apart := false }
def FnAddCreditsGroupsToCappedSumSaid : Prop := fnAddCreditsGroupsToCappedSumRow.holds Try.pinned (OpenSpec.ofChange fnAddCreditsGroupsToCappedSumSpec)

/-- ITS FALSE NEIGHBOUR: 'it returns false'. Refute it at one input. -/
def fnAddCreditsGroupsToCappedSumWrong : ChangeSpec := { name := "fnAddCreditsGroupsToCappedSum", fn := fun _ => fun
  | [d1, d2, d3] => { results := [.lit (.bool false)], args := [d1, d2, d3] }
  | _ => none }
def FnAddCreditsGroupsToCappedSumWrongFalsely : Prop := fnAddCreditsGroupsToCappedSumRow.holds Try.pinned (OpenSpec.ofChange fnAddCreditsGroupsToCappedSumWrong)

end Rows
end Go.Proofs.Qxb6614333a
