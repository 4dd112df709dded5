import Derived.Test.Qxb6605729aRows
import Derived.Test.Qxb6605729aSmall
import Derived.ProofKit
import Derived.Deep.Slices
namespace Go.Proofs.Qxb6605729a
open Go.ChangeShapes Go.WideShapes Go.ChangeAt Go.RowKit

theorem trod_float {H : Type} {enc : TypeId × Value → H} {P : Program} {w : World} {base : Nat} {spare : Nat → Bool} {held : Bool} {fuel : Nat} {t : TypeId} {cs : List Value} {x : DataW H × List MemPlace} {k : FloatKind}
    (ht : P.underlying t = some (.float k)) (h : DataW.trod enc P w base spare held fuel t cs = some x) : ∃ n, cs = [.float k n] := by
  cases fuel with
  | zero => simp [DataW.trod] at h
  | succ n =>
    unfold DataW.trod at h
    rw [ht] at h
    split at h <;> simp_all

/-- What the walk is told of a slice of floats that came in. -/
theorem open_floats {H : Type} {enc : TypeId × Value → H} {W : World} {fuel : Nat} {a0 : Option Addr} {len cap : Nat} {x : DataW H × List MemPlace}
    (hf : DataW.trod enc Try.prog W 0 (fun _ => true) true fuel 22 (Value.slice a0 len cap).cells.toList = some x) :
    (a0 = none ∧ len = 0) ∨ ∃ (a : Addr) (d : Array Nat), a0 = some a ∧ len ≤ maxLen ∧ d.size = len ∧ ∀ t, t < len → W.cell? (a.add t) = some (.float .f64 d[t]!) := by
  rcases Go.Deep.open_slice1 Try.underlying22 (by kernel_rfl) hf with ⟨hcs, _⟩ | ⟨a, l, c, m, n, V, D, Pl, hcs, _, hl, hm, hmm, _, hx⟩
  · simp [Value.cells] at hcs
    exact Or.inl ⟨hcs.1, hcs.2.1⟩
  · simp [Value.cells] at hcs
    obtain ⟨rfl, rfl, rfl⟩ := hcs
    right
    have hF : ∀ i, i < len → ∃ b : Nat, V i = .float .f64 b := fun i hi => by
      obtain ⟨b, hb⟩ := trod_float Try.underlying25 (hx i (by simp at hmm; omega)).2
      exact ⟨b, by simpa using hb⟩
    obtain ⟨F, hF⟩ := Go.Deep.choose_lt hF
    refine ⟨a, (Array.range len).map F, rfl, by omega, by simp, fun t ht => ?_⟩
    rw [(hx t (by simp at hmm; omega)).1, hF t ht, getElem!_pos _ t (by simpa using ht)]
    simp

end Go.Proofs.Qxb6605729a
