/-
  No cell of these rows narrows 'for every input' (looked for: loops, veiled, ifaces, maps, wideKeys, modest, calm, conditions, laid).
  DERIVED. THE GIVEN ROWS OF THIS SEAT. 2 by the template 'for every input the law returns true; each argument reads behind the call as it read before'; 0 by the template 'total and deterministic' (their statements: Qxb6605729aTotals.lean).
  GIVEN WITH THE SEED: the statements are not yours to turn. If you find one false, say at which input.
  Laid BY PROGRAM, IN A SANDBOX (cutbox-rows.mjs): the forced cells as the released guide's own fill.sh prints them over the translation a1f5116799050bb3… (all of the seat's roots in one cut). By AI agents, Wed Nov 11 2026. No macro, syntax, notation, axiom, sorry.
-/
import Derived.Test.Qxb6605729aChecked
import GoSem.Claim
import GoSem.ClaimJoined
import GoSem.ClaimMapViews
import Derived.JoinedTies
import Derived.KernelRfl
namespace Go.Proofs.Qxb6605729a
/- THE CELL 'sum', in the pinned program and in every row, IS THE sha256 OF THE DUMP (.gsa) THAT Qxb6605729aProg.lean LOADS. Nothing in Lean hashes anything: it is a label: what it is worth is what the hold of that sum in a sandbox is worth. -/
noncomputable def Try.pinned : Pinned := { name := "qxb6605729a", sum := "a1f5116799050bb38b23667aad71d68ab12028cb63c37949e6faaf03e18c644e", checked := Try.checked }
namespace Rows
def none {H : Type} : Left H := { results := [], args := [] }

/-- 'zzlaws_internal_bench_b1.FnSummaryExact': WHATEVER THE INPUT: true; the input reads as it did. -/
def fnSummaryExactSpec : ChangeSpec := { name := "fnSummaryExact", fn := fun _ => fun
  | [d] => { results := [.lit (.bool true)], args := [d] }
  | _ => none }
def fnSummaryExactRow : OpenClaim := { program := "qxb6605729a", sum := "a1f5116799050bb38b23667aad71d68ab12028cb63c37949e6faaf03e18c644e", func := "example.com/stratakit/stratakit/zzlaws_internal_bench_b1.FnSummaryExact", spec := "fnSummaryExact", recurses := true, apart := false }
def FnSummaryExactSaid : Prop := fnSummaryExactRow.holds Try.pinned (OpenSpec.ofChange fnSummaryExactSpec)

/-- ITS FALSE NEIGHBOUR: 'it returns false'. Refute it at one input. -/
def fnSummaryExactWrong : ChangeSpec := { name := "fnSummaryExact", fn := fun _ => fun
  | [d] => { results := [.lit (.bool false)], args := [d] }
  | _ => none }
def FnSummaryExactWrongFalsely : Prop := fnSummaryExactRow.holds Try.pinned (OpenSpec.ofChange fnSummaryExactWrong)

/-- 'zzlaws_internal_bench_b1.FnSummaryNegation': WHATEVER THE INPUT: true; the input reads as it did. -/
def fnSummaryNegationSpec : ChangeSpec := { name := "fnSummaryNegation", fn := fun _ => fun
  | [d] => { results := [.lit (.bool true)], args := [d] }
  | _ => none }
def fnSummaryNegationRow : OpenClaim := { program := "qxb6605729a", sum := "a1f5116799050bb38b23667aad71d68ab12028cb63c37949e6faaf03e18c644e", func := "example.com/stratakit/stratakit/zzlaws_internal_bench_b1.FnSummaryNegation", spec := "fnSummaryNegation", recurses := true, apart := false }
def FnSummaryNegationSaid : Prop := fnSummaryNegationRow.holds Try.pinned (OpenSpec.ofChange fnSummaryNegationSpec)

/-- ITS FALSE NEIGHBOUR: 'it returns false'. Refute it at one input. -/
def fnSummaryNegationWrong : ChangeSpec := { name := "fnSummaryNegation", fn := fun _ => fun
  | [d] => { results := [.lit (.bool false)], args := [d] }
  | _ => none }
def FnSummaryNegationWrongFalsely : Prop := fnSummaryNegationRow.holds Try.pinned (OpenSpec.ofChange fnSummaryNegationWrong)

end Rows
end Go.Proofs.Qxb6605729a
