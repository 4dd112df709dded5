import Derived.Test.Qxb6604409aRows
import Derived.Test.Qxb6604409aRefWalks
import Derived.WalkKit
import Derived.ProofKit
import Derived.OpenShut
import Derived.ShutString
namespace Go.Proofs.Qxb6604409a.fnReferenceStringPlacesFieldsAndIsInjective
open Go.ChangeShapes Go.WideShapes Go.ChangeAt Go.RowKit
open Go.ChangeMaps (open_string shut_string)
set_option linter.unusedVariables false      -- a walk need not use every 'w<i>' (that an integer argument fits its kind)

theorem own : ownKnob Try.prog.godebug = none := by kernel_rfl

/-- Two lists with one ':' behind a text, and none in what follows it, are one only where both parts are. -/
theorem split_inj : ∀ (a c b d : List UInt8), (58 : UInt8) ∉ b → (58 : UInt8) ∉ d → a ++ 58 :: b = c ++ 58 :: d → a = c ∧ b = d
  | [], [], b, d, _, _, h => by simpa using h
  | [], y :: c, b, d, hb, _, h => by
    simp at h
    exact absurd (by rw [h.2]; simp) hb
  | x :: a, [], b, d, _, hd, h => by
    simp at h
    exact absurd (by rw [← h.2]; simp) hd
  | x :: a, y :: c, b, d, hb, hd, h => by
    simp at h
    obtain ⟨h1, h2⟩ := split_inj a c b d hb hd h.2
    exact ⟨by rw [h.1, h1], h2⟩

theorem no_mem {b : ByteArray} (h : NoColon b) : (58 : UInt8) ∉ b.data.toList := by
  intro hm
  obtain ⟨k, hk, e⟩ := List.getElem_of_mem hm
  exact h k (by rw [Lib.size_eq]; exact hk) e

theorem ref_inj {a b c d : ByteArray} (hb : NoColon b) (hd : NoColon d) (h : (refStr a b).toList = (refStr c d).toList) : a.toList = c.toList ∧ b.toList = d.toList := by
  rw [Lib.toList_data, Lib.toList_data, refStr_data, refStr_data] at h
  rw [Lib.toList_data, Lib.toList_data, Lib.toList_data, Lib.toList_data]
  exact split_inj _ _ _ _ (no_mem hb) (no_mem hd) h

theorem ref_congr {a b c d : ByteArray} (h1 : a.toList = c.toList) (h2 : b.toList = d.toList) : (refStr a b).toList = (refStr c d).toList := by
  rw [Lib.toList_data, Lib.toList_data] at h1 h2 ⊢
  rw [refStr_data, refStr_data, h1, h2]

theorem ref_iff {a0 a1 a2 a3 : ByteArray} {r s : Int} (h1 : 0 ≤ r ∨ r = -1 ∧ NoColon a1) (h3 : 0 ≤ s ∨ s = -1 ∧ NoColon a3) (h : r < 0 ∧ s < 0) :
    (refStr a0 a1).toList = (refStr a2 a3).toList ↔ a0.toList = a2.toList ∧ a1.toList = a3.toList := by
  have n1 : NoColon a1 := by rcases h1 with h1 | h1; omega; exact h1.2
  have n3 : NoColon a3 := by rcases h3 with h3 | h3; omega; exact h3.2
  exact ⟨fun hh => ref_inj n1 n3 hh, fun hh => ref_congr hh.1 hh.2⟩

theorem ret_true {b : Bool} (h : b = true) : Ending.returned (.bool b) = .returned (.bool true) := by rw [h]

theorem grown_drewN {W w' : World} (h : Grown W w') (n : Nat) : Grown W (w'.drewN n) := h

/-! ### STEP 1: THE WALK: the Go text returns true. 'Grown w w'': the world has at most new blocks (Derived/RowKit3.lean). Part the cases AHEAD of 'go_enter' where a test parts the walk; take each callee by a contract of your own. -/
theorem walk (a0 : ByteArray) (a1 : ByteArray) (a2 : ByteArray) (a3 : ByteArray) (w0 : a0.size ≤ maxLen) (w1 : a1.size ≤ maxLen) (w2 : a2.size ≤ maxLen) (w3 : a3.size ≤ maxLen) (w : World) :
    Calls Try.prog 4 #[.string a0, .string a1, .string a2, .string a3] w fun e w' => e = .returned (.bool true) ∧ Grown w w' := by
  have w0' := w0
  have w1' := w1
  have w2' := w2
  have w3' := w3
  unfold maxLen at w0' w1' w2' w3'
  have hsz := refStr_size a0 a1
  have hmid : (((refStr a0 a1)[a0.size]'(by omega)).toNat : Int) = 58 := by rw [refStr_mid]; rfl
  go_enter Try.func4, Try.ntmps4
  go_wp2_with (first
    | (go_at_call 11; refine (bytes11_any a0 a1 a2 a3 _ w0 w1 w2 w3).mono ?_; rintro e w' ⟨⟨r, rfl⟩, rfl⟩)
    | (go_at_call 7; refine (first_any _ _ (by assumption)).mono ?_; rintro e w' ⟨⟨r, rfl, hr⟩, rfl⟩)
    | (go_at_call 8; refine (ref_any _ _ _).mono ?_; rintro e w' ⟨rfl, rfl⟩)
    | (go_at_call 9; refine (str_any _ _ _ (by omega) (by omega)).mono ?_; rintro e w' ⟨rfl, rfl⟩)
    | (go_at_call 12; refine (prefix_any (refStr a0 a1) a0 _ (by rw [hsz]; unfold maxLen; omega) (by omega) (fun k hk => refStr_left a0 a1 k hk _)).mono ?_; rintro e w' ⟨rfl, n, rfl⟩)
    | (go_at_call 13; refine (suffix_any (refStr a0 a1) a1 (a0.size + 1) _ (by rw [hsz]; unfold maxLen; omega) (by omega) (fun k hk hk2 => refStr_right a0 a1 k hk _)).mono ?_; rintro e w' ⟨rfl, n, rfl⟩))
  all_goals go_ret
  all_goals refine ⟨?_, by repeat (first | exact Grown.refl _ | apply grown_drewN | apply Grown.drew | apply Grown.alloc)⟩
  all_goals try rfl
  all_goals refine ret_true ?_
  · have hI := ref_iff (a0 := a0) (a1 := a1) (a2 := a2) (a3 := a3) (by assumption) (by assumption) (by assumption)
    have he : a0.toList = a2.toList := by assumption
    rw [Bool.beq_eq_decide_eq, decide_eq_true_iff, Bool.eq_iff_iff, beq_iff_eq, beq_iff_eq, hI]
    exact ⟨fun h => h.2, fun h => ⟨he, h⟩⟩
  · have hI := ref_iff (a0 := a0) (a1 := a1) (a2 := a2) (a3 := a3) (by assumption) (by assumption) (by assumption)
    have he : ¬ a0.toList = a2.toList := by assumption
    rw [Bool.not_eq_true', beq_eq_false_iff_ne]
    exact fun h => he (hI.1 h).1

/-! ### THE ROW's STEP: WRITTEN OUT: LEAVE IT -/
set_option maxRecDepth 100000 in
theorem lifted (os : Os) (started : os.Started) (H : Type) (enc : TypeId × Value → H) :
    ReturnsInHanded {} Try.checked os 4 .any (Rows.fnReferenceStringPlacesFieldsAndIsInjectiveSpec.pre6 enc Try.prog Try.f4 Rows.fnReferenceStringPlacesFieldsAndIsInjectiveRow.domain false) (Rows.fnReferenceStringPlacesFieldsAndIsInjectiveSpec.post enc Try.prog Try.f4 false true false false) := by
  refine returnsInHanded_of_change (C := Try.checked) own started (by kernel_rfl) Try.func4
    (ChangeSpec.witness6 (enc := enc) (C := Try.checked) false ⟨#[], #[.string ByteArray.empty, .string ByteArray.empty, .string ByteArray.empty, .string ByteArray.empty], []⟩ 8 (by kernel_rfl) (by kernel_rfl) (by kernel_rfl) (by kernel_rfl)) ?_
  intro W base args ds gs before hval0 hW hcnd _
  have hval : ∀ (j : Nat) t v, Try.f4.params[j]? = some t → args[j]? = some v → Value.okWide Try.prog W .any base t v := hval0
  have hW' := hW
  obtain ⟨p, q, hA0, hV, rfl, hfz, hnd⟩ := hW
  have hA : DataW.TrodAll enc Try.prog W 0 (fun _ => true) true Try.f4.params.toList args.toList ds p := hA0
  rw [Try.params4] at hA hval
  obtain ⟨v0, vs0, d0, ds0, p0, q0, hargs, rfl, rfl, h0, r0⟩ := trodAll_cons hA
  obtain ⟨v1, vs1, d1, ds1, p1, q1, rfl, rfl, rfl, h1, r1⟩ := trodAll_cons r0
  obtain ⟨v2, vs2, d2, ds2, p2, q2, rfl, rfl, rfl, h2, r2⟩ := trodAll_cons r1
  obtain ⟨v3, vs3, d3, ds3, p3, q3, rfl, rfl, rfl, h3, r3⟩ := trodAll_cons r2
  obtain ⟨rfl, rfl, rfl⟩ := trodAll_nil r3
  obtain rfl : args = #[v0, v1, v2, v3] := by cases args; simp_all
  obtain ⟨rfl, rfl⟩ := trodVars_none hV
  obtain ⟨a0, rfl, rfl, rfl, w0⟩ := open_string Try.underlying9 (hval 0 9 v0 rfl rfl) h0
  obtain ⟨a1, rfl, rfl, rfl, w1⟩ := open_string Try.underlying9 (hval 1 9 v1 rfl rfl) h1
  obtain ⟨a2, rfl, rfl, rfl, w2⟩ := open_string Try.underlying9 (hval 2 9 v2 rfl rfl) h2
  obtain ⟨a3, rfl, rfl, rfl, w3⟩ := open_string Try.underlying9 (hval 3 9 v3 rfl rfl) h3
  clear hA0 hval0
  simp only [List.append_nil] at hW'
  refine (walk a0 a1 a2 a3 w0 w1 w2 w3 W).mono fun e W' ⟨he, hg⟩ => ?_
  subst he
  exact ⟨_, rfl, post_of_same (pa := []) (pv := []) hW' (fun _ _ _ => (trodAll_cons_mk (shut_bool Try.underlying4 _) trodAll_mk0)) (fun sp _ => (trodAll_cons_mk (shut_string Try.underlying9 w0) (trodAll_cons_mk (shut_string Try.underlying9 w1) (trodAll_cons_mk (shut_string Try.underlying9 w2) (trodAll_cons_mk (shut_string Try.underlying9 w3) trodAll_mk0))))) (fun _ _ => rfl) rfl
    (hg.frame _) hg.2.1 (ok_one (by kernel_rfl) rfl (okWide_bool_mk Try.underlying4 _))⟩

theorem over : Rows.fnReferenceStringPlacesFieldsAndIsInjectiveRow.holds Try.pinned (OpenSpec.ofChange Rows.fnReferenceStringPlacesFieldsAndIsInjectiveSpec) :=
  OpenClaim.holds_of_wide 4 Try.f4 rfl rfl rfl rfl rfl rfl rfl ⟨rfl, rfl, rfl, rfl, rfl⟩ rfl rfl rfl rfl rfl (by kernel_rfl) Try.func4 (by kernel_rfl)
    (of_decide_eq_true (by kernel_rfl)) (by unfold Func.isWrapper; first | (rw [if_pos (by decide +kernel)]; kernel_rfl) | (rw [if_neg (by decide +kernel)]; exact ⟨rfl, rfl⟩))
    (fun os started H enc _ => lifted os started H enc)

/-- ████ THE STATEMENT ████ -/
theorem proved : Rows.FnReferenceStringPlacesFieldsAndIsInjectiveSaid :=
  over
end Go.Proofs.Qxb6604409a.fnReferenceStringPlacesFieldsAndIsInjective
