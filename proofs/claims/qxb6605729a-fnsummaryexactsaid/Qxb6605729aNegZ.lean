import Derived.Test.Qxb6605729aPlain
namespace Go.Proofs.Qxb6605729a
open Go.RowKit Ieee

/-- A negative zero. -/
def isNZ (x : Nat) : Bool := decide (keyF x = 0) && negW x
def nz (l : List Nat) : Nat := l.countP isNZ

theorem nz_perm {l m : List Nat} (h : l.Perm m) : nz l = nz m := h.countP_eq _
theorem nz_snoc (l : List Nat) (x : Nat) : nz (l ++ [x]) = nz l + if isNZ x then 1 else 0 := by
  unfold nz; rw [List.countP_append, List.countP_singleton]
theorem nz_le (l : List Nat) : nz l ≤ l.length := List.countP_le_length

def oneF : Nat := 4607182418800017408
def infW (s : Bool) : Nat := Ieee.double.word s 9218868437227405312

theorem key_zero : keyF 0 = 0 := rfl

theorem rung_zero {x : Nat} (h : keyF x = 0) : rungF x = 0 := by
  unfold keyF at h
  by_cases h1 : 9218868437227405312 < rungF x
  · rw [if_pos h1] at h; omega
  · rw [if_neg h1] at h; unfold sg at h; cases e : negW x <;> rw [e] at h <;> simp at h <;> omega

theorem read_one : ∃ m i, Ieee.double.read oneF = .number false m i ∧ m ≠ 0 := ⟨4503599627370496, _, rfl, by decide⟩

theorem div_zero {x : Nat} (h : keyF x = 0) : Ieee.double.div oneF x = some (infW (negW x)) := by
  obtain ⟨m, i, e, hm⟩ := read_one
  have hr : Ieee.double.read x = .number (negW x) 0 lpF := by rw [read_eq, rung_zero h]; rfl
  unfold Format.div
  rw [e, hr]
  simp only [Datum.quotient, if_pos, hm, if_false, Option.map_some, Bool.false_xor]
  rfl

theorem key_inf (s : Bool) : keyF (infW s) = sg s 9218868437227405312 := key_word s _ (Nat.le_refl _)

theorem ord_inf_true : FloatKind.f64.format.order (infW true) 0 = some .lt := by
  have h := lt_eq (infW true) 0
  rw [decide_eq_true (by rw [key_inf, key_zero]; unfold sg; simp)] at h
  show Ieee.double.order (infW true) 0 = _
  simpa using h
theorem ord_inf_false : ¬ FloatKind.f64.format.order (infW false) 0 = some .lt := by
  have h := lt_eq (infW false) 0
  rw [decide_eq_false (by rw [key_inf, key_zero]; unfold sg; simp)] at h
  show ¬ Ieee.double.order (infW false) 0 = _
  simpa using h
theorem ord_zero {x : Nat} (h : keyF x = 0) : FloatKind.f64.format.order x 0 = some .eq := by
  have e := eq_eq x 0
  rw [decide_eq_true (by rw [h, key_zero]; omega)] at e
  show Ieee.double.order x 0 = _
  simpa using e
theorem ord_nonzero {x : Nat} (h : keyF x ≠ 0) : ¬ FloatKind.f64.format.order x 0 = some .eq := by
  have e := eq_eq x 0
  rw [decide_eq_false (by rw [key_zero]; omega)] at e
  show ¬ Ieee.double.order x 0 = _
  simpa using e

theorem take_arr {d : Array Nat} {i : Nat} (hi : i < d.size) : d.toList.take (i + 1) = d.toList.take i ++ [d[i]!] := by
  rw [List.take_succ_eq_append_getElem (by simpa using hi), getElem!_pos _ i hi]; rfl

set_option maxHeartbeats 400000 in
theorem negz_any (b off n c : Nat) (d : Array Nat) (w : World) (hn : n ≤ 131072) (hR : RowF w b off n d) :
    Calls Try.prog 11 #[.slice (some ⟨b, off, none⟩) n c] w fun e w' => e = .returned (.int .i64 (nz d.toList : Int)) ∧ w' = w := by
  obtain ⟨hd, hc⟩ := hR
  have HC : Hid (∀ t, t < n → w.cell? ⟨b, off + t, none⟩ = some (.float .f64 d[t]!)) := hc
  have HD : Hid (d.size = n) := hd
  clear hc hd
  go_enter Try.func11, Try.ntmps11
  go_wp2
  go_loop [3, 4] (fun z i => ∃ k m : Nat, k ≤ n ∧ i = .int .i64 k ∧ z = .int .i64 m ∧ m ≤ k ∧ m = nz (d.toList.take k)) (fun _ i => n - (intOf i).toNat)
  case atStart => exact ⟨0, 0, Nat.zero_le _, rfl, rfl, Nat.le_refl _, rfl⟩
  case round =>
    obtain ⟨k, m, hk, rfl, rfl, hmk, hm⟩ := hrel
    have HM : Hid (m = nz (d.toList.take k)) := hm
    clear hm
    by_cases hlt : k < n
    · obtain ⟨x, hx⟩ : ∃ x, x = d[k]! := ⟨_, rfl⟩
      have c1 : w.cell? ⟨b, off + k, none⟩ = some (.float .f64 x) := by rw [hx]; exact HC.out k hlt
      have HS : Hid (nz (d.toList.take (k + 1)) = m + if isNZ x then 1 else 0) := by
        show nz _ = _
        rw [take_arr (by have := HD.out; omega), nz_snoc, ← hx, ← HM.out]
      clear hx
      by_cases hz : keyF x = 0
      · have ldiv := fun w => run_float_arith (P := Try.prog) w .quo 25 .f64 4607182418800017408 x (infW (negW x)) (div_zero hz)
        have o1 := ord_zero hz
        cases hs : negW x with
        | true =>
          have o2 := ord_inf_true
          have HT : Hid (isNZ x = true) := by show isNZ x = true; unfold isNZ; rw [hz, hs]; rfl
          rw [hs] at ldiv
          clear hz hs
          go_wp2
          go_round
          case rel => exact ⟨k + 1, m + 1, by omega, by go_num, by go_num, by omega, by rw [HS.out, HT.out]; rfl⟩
          case measure => simp [intOf]; omega
        | false =>
          have o2 := ord_inf_false
          have HT : Hid (isNZ x = false) := by show isNZ x = false; unfold isNZ; rw [hs]; simp
          rw [hs] at ldiv
          clear hz hs
          go_wp2
          go_round
          case rel => exact ⟨k + 1, m, by omega, by go_num, rfl, by omega, by rw [HS.out, HT.out]; rfl⟩
          case measure => simp [intOf]; omega
      · have o1 := ord_nonzero hz
        have HT : Hid (isNZ x = false) := by show isNZ x = false; unfold isNZ; simp [hz]
        clear hz
        go_wp2
        go_round
        case rel => exact ⟨k + 1, m, by omega, by go_num, rfl, by omega, by rw [HS.out, HT.out]; rfl⟩
        case measure => simp [intOf]; omega
    · go_wp2
      go_ret
      refine ⟨?_, rfl⟩
      have : d.toList.take k = d.toList := List.take_of_length_le (by simp; have := HD.out; omega)
      show Ending.returned (.int .i64 (m : Int)) = _
      rw [HM.out, this]

end Go.Proofs.Qxb6605729a
