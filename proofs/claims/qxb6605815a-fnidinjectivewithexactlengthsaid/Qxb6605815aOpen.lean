import Derived.Test.Qxb6605815aEsc
import Derived.ProofKit
import Derived.OpenShut
import Derived.ShutString
import Derived.DataShut
namespace Go.Proofs.Qxb6605815a
open Go.ChangeShapes Go.WideShapes Go.ChangeAt Go.RowKit

theorem own : ownKnob Try.prog.godebug = none := by kernel_rfl
theorem cells4 : Try.prog.cellsOf 4 = 1 := by kernel_rfl
theorem cells22 : Try.prog.cellsOf 22 = 256 := by kernel_rfl

/-- The table as data. -/
def tabD (H : Type) (K : Nat → Bool) : DataW H := .agg ((List.range 256).map fun i => .lit (.bool (K i)))

section
variable {H : Type} {enc : TypeId × Value → H} {w : World} {base : Nat} {spare : Nat → Bool} {held : Bool}

theorem one_at (cs : List Value) (i : Nat) (h : i < cs.length) : (cs.drop i).take 1 = [cs[i]] := by
  rw [List.drop_eq_getElem_cons h]; rfl

theorem open_tab {b0 : Nat} {v : Value} {d : DataW H} {ps : List MemPlace} (hval : Value.okWide Try.prog w .any b0 22 v) (hd : DataW.Trod enc Try.prog w base spare held 22 v d ps) :
    ∃ K : Nat → Bool, v = .agg (tabV K) ∧ d = tabD H K ∧ ps = [] := by
  obtain ⟨cs, rfl⟩ : ∃ cs, v = .agg cs := by
    unfold Value.okWide at hval
    rw [Try.underlying22] at hval
    obtain ⟨cs, h, _⟩ := hval
    exact ⟨cs, h⟩
  obtain ⟨fuel, hf⟩ := hd
  obtain ⟨xs, m, _, hx, hl, hn, hall⟩ := DataW.trod_array Try.underlying22 hf
  rw [cells22] at hl
  have hl' : cs.toList.length = 256 := hl
  have hall' : ∀ i, i < 256 → ∃ b : Bool, cs.toList[i]? = some (.bool b) ∧ xs[i]? = some (.lit (.bool b), []) := by
    intro i hi
    have h1 := hall i hi
    rw [cells4, Nat.mul_one] at h1
    have h2 : (Value.agg cs).cells.toList = cs.toList := rfl
    rw [h2, one_at cs.toList i (by omega), List.getElem?_eq_getElem (by omega)] at h1
    obtain ⟨b, hb, hxb⟩ := DataW.trod_bool Try.underlying4 h1
    refine ⟨b, ?_, ?_⟩
    · rw [List.getElem?_eq_getElem (by omega)]
      exact congrArg some (List.cons.inj hb).1
    · rw [List.getElem?_eq_getElem (by omega), hxb]
  refine ⟨fun i => match cs.toList[i]? with | some (.bool b) => b | _ => false, ?_, ?_, ?_⟩
  · refine congrArg Value.agg (Array.ext_getElem? fun i => ?_)
    by_cases hi : i < 256
    · rw [tabV_get _ hi]
      obtain ⟨b, hb, _⟩ := hall' i hi
      rw [hb]
      simpa using hb
    · rw [Array.getElem?_eq_none (by rw [← Array.length_toList]; omega), Array.getElem?_eq_none (by rw [tabV_size]; omega)]
  · rw [show d = .agg (xs.map (·.1)) from congrArg Prod.fst hx]
    unfold tabD
    refine congrArg DataW.agg (List.ext_getElem? fun i => ?_)
    by_cases hi : i < 256
    · obtain ⟨b, hb, hxb⟩ := hall' i hi
      rw [List.getElem?_map, hxb, List.getElem?_map, List.getElem?_range hi]
      simp only [Option.map_some, hb]
    · rw [List.getElem?_eq_none (by simp; omega), List.getElem?_eq_none (by simp; omega)]
  · rw [show ps = xs.flatMap (·.2) from congrArg Prod.snd hx]
    rw [List.flatMap_eq_nil_iff]
    intro x hx
    obtain ⟨i, hi, rfl⟩ := List.getElem_of_mem hx
    obtain ⟨b, _, hxb⟩ := hall' i (by omega)
    rw [List.getElem?_eq_getElem hi] at hxb
    rw [Option.some.inj hxb]

theorem shut_tab (K : Nat → Bool) : DataW.Trod enc Try.prog w base spare held 22 (.agg (tabV K)) (tabD H K) [] := by
  refine ⟨2, ?_⟩
  unfold DataW.trod
  rw [Try.underlying22]
  have hc : (Value.agg (tabV K)).cells.toList.length = Try.prog.cellsOf 22 := by rw [cells22]; show (tabV K).toList.length = 256; rw [Array.length_toList, tabV_size]
  simp only [hc, if_true]
  rw [mapM_some_of_forall (g := fun i => (DataW.lit (.bool (K i)), [])) (List.range 256) ?_]
  · simp only [Option.map_some, List.map_map]
    refine congrArg some (Prod.ext rfl ?_)
    simp
  · intro i hi
    have hi' : i < 256 := List.mem_range.1 hi
    rw [cells4, Nat.mul_one]
    have h2 : (Value.agg (tabV K)).cells.toList = (tabV K).toList := rfl
    rw [h2, one_at _ i (by rw [Array.length_toList, tabV_size]; exact hi')]
    have : (tabV K).toList[i]'(by rw [Array.length_toList, tabV_size]; exact hi') = .bool (K i) := by
      have := tabV_get K hi'
      rw [Array.getElem?_eq_getElem (by rw [tabV_size]; exact hi')] at this
      simpa using this
    rw [this]
    unfold DataW.trod
    rw [Try.underlying4]

end
end Go.Proofs.Qxb6605815a
