import Derived.Test.Qxb6605729aSmall
import Derived.CellFam
namespace Go.Proofs.Qxb6605729a
open Go.RowKit

/-- What zzMinMax knows behind k elements. -/
def MM (d : Array Nat) (k lo hi : Nat) (an hb : Bool) : Prop :=
  (∀ j, j < k → keyF d[j]! = -9223372036854775808 → an = true) ∧ (an = true → ∃ j, j < k ∧ keyF d[j]! = -9223372036854775808) ∧
  (hb = true → (∃ j, j < k ∧ keyF d[j]! ≠ -9223372036854775808 ∧ keyF lo = keyF d[j]!) ∧ (∃ j, j < k ∧ keyF d[j]! ≠ -9223372036854775808 ∧ keyF hi = keyF d[j]!) ∧
    ∀ j, j < k → keyF d[j]! ≠ -9223372036854775808 → keyF lo ≤ keyF d[j]! ∧ keyF d[j]! ≤ keyF hi) ∧
  (hb = false → ∀ j, j < k → keyF d[j]! = -9223372036854775808)

theorem mm_start (d : Array Nat) : MM d 0 0 0 false false :=
  ⟨fun _ h _ => absurd h (Nat.not_lt_zero _), fun h => Bool.noConfusion h, fun h => Bool.noConfusion h, fun _ _ h => absurd h (Nat.not_lt_zero _)⟩

theorem lt_or {j k : Nat} (h : j < k + 1) : j < k ∨ j = k := by omega

theorem mm_nan {d : Array Nat} {k lo hi : Nat} {an hb : Bool} (h : MM d k lo hi an hb) (hx : keyF d[k]! = -9223372036854775808) : MM d (k + 1) lo hi true hb := by
  obtain ⟨_, _, h3, h4⟩ := h
  refine ⟨fun _ _ _ => rfl, fun _ => ⟨k, by omega, hx⟩, fun hb => ?_, fun hb j hj => ?_⟩
  · obtain ⟨⟨j1, a1, a2, a3⟩, ⟨j2, b1, b2, b3⟩, hall⟩ := h3 hb
    refine ⟨⟨j1, by omega, a2, a3⟩, ⟨j2, by omega, b2, b3⟩, fun j hj hn => ?_⟩
    rcases lt_or hj with hj | rfl
    · exact hall j hj hn
    · exact absurd hx hn
  · rcases lt_or hj with hj | rfl
    · exact h4 hb j hj
    · exact hx

theorem mm_num {d : Array Nat} {k lo hi lo' hi' : Nat} {an hb : Bool} (h : MM d k lo hi an hb) (hx : keyF d[k]! ≠ -9223372036854775808)
    (hlo : (lo' = d[k]! ∧ (hb = true → keyF d[k]! ≤ keyF lo)) ∨ (hb = true ∧ lo' = lo ∧ keyF lo ≤ keyF d[k]!))
    (hhi : (hi' = d[k]! ∧ (hb = true → keyF hi ≤ keyF d[k]!)) ∨ (hb = true ∧ hi' = hi ∧ keyF d[k]! ≤ keyF hi)) : MM d (k + 1) lo' hi' an true := by
  obtain ⟨h1, h2, h3, h4⟩ := h
  refine ⟨fun j hj hn => ?_, fun ha => ?_, fun _ => ⟨?_, ?_, fun j hj hn => ⟨?_, ?_⟩⟩, fun h => by cases h⟩
  · rcases lt_or hj with hj | rfl
    · exact h1 j hj hn
    · exact absurd hn hx
  · obtain ⟨j, a, b⟩ := h2 ha; exact ⟨j, by omega, b⟩
  · rcases hlo with ⟨rfl, _⟩ | ⟨hb, rfl, _⟩
    · exact ⟨k, by omega, hx, rfl⟩
    · obtain ⟨⟨j, a, b, c⟩, _⟩ := h3 hb; exact ⟨j, by omega, b, c⟩
  · rcases hhi with ⟨rfl, _⟩ | ⟨hb, rfl, _⟩
    · exact ⟨k, by omega, hx, rfl⟩
    · obtain ⟨_, ⟨j, a, b, c⟩, _⟩ := h3 hb; exact ⟨j, by omega, b, c⟩
  · rcases lt_or hj with hj | rfl
    · cases hbv : hb with
      | false => exact absurd (h4 hbv j hj) hn
      | true =>
        have := (h3 hbv).2.2 j hj hn
        rcases hlo with ⟨rfl, hl⟩ | ⟨_, rfl, _⟩
        · have := hl hbv; omega
        · omega
    · rcases hlo with ⟨rfl, _⟩ | ⟨_, rfl, hl⟩
      · omega
      · exact hl
  · rcases lt_or hj with hj | rfl
    · cases hbv : hb with
      | false => exact absurd (h4 hbv j hj) hn
      | true =>
        have := (h3 hbv).2.2 j hj hn
        rcases hhi with ⟨rfl, hl⟩ | ⟨_, rfl, _⟩
        · have := hl hbv; omega
        · omega
    · rcases hhi with ⟨rfl, _⟩ | ⟨_, rfl, hl⟩
      · omega
      · exact hl

/-- What zzMinMax gives back: by the key the least and the greatest of all (a NaN lies below all else). -/
def LoHi (d : Array Nat) (n lo hi : Nat) : Prop :=
  (∃ j, j < n ∧ keyF lo = keyF d[j]!) ∧ (∃ j, j < n ∧ keyF hi = keyF d[j]!) ∧ ∀ j, j < n → keyF lo ≤ keyF d[j]! ∧ keyF d[j]! ≤ keyF hi

theorem mm_end {d : Array Nat} {n lo hi lo' hi' : Nat} {an hb : Bool} (h : MM d n lo hi an hb) (h0 : 0 < n)
    (hlo : (an = true ∧ keyF lo' = -9223372036854775808) ∨ (an = false ∧ lo' = lo)) (hhi : (hb = false ∧ keyF hi' = -9223372036854775808) ∨ (hb = true ∧ hi' = hi)) : LoHi d n lo' hi' := by
  obtain ⟨h1, h2, h3, h4⟩ := h
  have hge := fun (j : Nat) => key_ge d[j]!
  refine ⟨?_, ?_, fun j hj => ⟨?_, ?_⟩⟩
  · rcases hlo with ⟨a, b⟩ | ⟨a, rfl⟩
    · obtain ⟨j, x, y⟩ := h2 a; exact ⟨j, x, by omega⟩
    · cases hbv : hb with
      | false => have := h1 0 h0 (h4 hbv 0 h0); rw [a] at this; cases this
      | true => obtain ⟨⟨j, x, y, z⟩, _⟩ := h3 hbv; exact ⟨j, x, z⟩
  · rcases hhi with ⟨a, b⟩ | ⟨a, rfl⟩
    · exact ⟨0, h0, by rw [b, h4 a 0 h0]⟩
    · obtain ⟨_, ⟨j, x, y, z⟩, _⟩ := h3 a; exact ⟨j, x, z⟩
  · rcases hlo with ⟨a, b⟩ | ⟨a, rfl⟩
    · rw [b]; exact hge j
    · have hn : keyF d[j]! ≠ -9223372036854775808 := fun hn => by have := h1 j hj hn; rw [a] at this; cases this
      cases hbv : hb with
      | false => exact absurd (h4 hbv j hj) hn
      | true => exact ((h3 hbv).2.2 j hj hn).1
  · rcases hhi with ⟨a, b⟩ | ⟨a, rfl⟩
    · rw [b, h4 a j hj]; omega
    · by_cases hn : keyF d[j]! = -9223372036854775808
      · rw [hn]; exact key_ge _
      · exact ((h3 a).2.2 j hj hn).2

theorem t_nan {x : Nat} (h : (FloatKind.f64.format.order x x != some .eq) = true) : keyF x = -9223372036854775808 := by
  have e := nanF_eq x
  have h' : nanF x = true := h
  rw [h'] at e; simpa using e.symm
theorem t_num {x : Nat} (h : (FloatKind.f64.format.order x x != some .eq) = false) : keyF x ≠ -9223372036854775808 := by
  have e := nanF_eq x
  have h' : nanF x = false := h
  rw [h'] at e; simpa using e.symm
theorem t_lt {x y : Nat} (h : (FloatKind.f64.format.order x y == some .lt) = true) : keyF x < keyF y := by
  have e := lt_eq x y
  have h' : (Ieee.double.order x y == some .lt) = true := h
  rw [h'] at e; have := e.symm; simp at this; exact this.2
theorem t_nlt {x y : Nat} (h : (FloatKind.f64.format.order x y == some .lt) = false) (hx : keyF x ≠ -9223372036854775808) : keyF y ≤ keyF x := by
  have e := lt_eq x y
  have h' : (Ieee.double.order x y == some .lt) = false := h
  rw [h'] at e; have := e.symm; simp at this; exact this hx
theorem t_gt {x y : Nat} (h : (FloatKind.f64.format.order x y == some .gt) = true) : keyF y < keyF x := by
  have e := gt_eq x y
  have h' : (Ieee.double.order x y == some .gt) = true := h
  rw [h'] at e; have := e.symm; simp at this; exact this.2
theorem t_ngt {x y : Nat} (h : (FloatKind.f64.format.order x y == some .gt) = false) (hx : keyF y ≠ -9223372036854775808) : keyF x ≤ keyF y := by
  have e := gt_eq x y
  have h' : (Ieee.double.order x y == some .gt) = false := h
  rw [h'] at e; have := e.symm; simp at this; exact this hx

theorem mm_hi {d : Array Nat} {k lo hi : Nat} {an hb : Bool} (h : MM d k lo hi an hb) (hbt : hb = true) : keyF hi ≠ -9223372036854775808 := by
  obtain ⟨_, ⟨j, a, b, c⟩, _⟩ := h.2.2.1 hbt; rw [c]; exact b

/-- The six ways of a round. -/
theorem w_nan {d : Array Nat} {k l h x : Nat} {a hb : Bool} (hm : MM d k l h a hb) (hx : x = d[k]!) (t : (FloatKind.f64.format.order x x != some .eq) = true) : MM d (k + 1) l h true hb :=
  mm_nan hm (by rw [← hx]; exact t_nan t)
theorem w_lg {d : Array Nat} {k l h x : Nat} {a hb : Bool} (hm : MM d k l h a hb) (hx : x = d[k]!) (t : (FloatKind.f64.format.order x x != some .eq) = false) (_hb : hb = true)
    (t1 : (FloatKind.f64.format.order x l == some .lt) = true) (t2 : (FloatKind.f64.format.order x h == some .gt) = true) : MM d (k + 1) x x a true :=
  mm_num hm (by rw [← hx]; exact t_num t) (.inl ⟨hx, fun _ => by rw [← hx]; have := t_lt t1; omega⟩) (.inl ⟨hx, fun _ => by rw [← hx]; have := t_gt t2; omega⟩)
theorem w_ln {d : Array Nat} {k l h x : Nat} {a hb : Bool} (hm : MM d k l h a hb) (hx : x = d[k]!) (t : (FloatKind.f64.format.order x x != some .eq) = false) (hbt : hb = true)
    (t1 : (FloatKind.f64.format.order x l == some .lt) = true) (t2 : (FloatKind.f64.format.order x h == some .gt) = false) : MM d (k + 1) x h a true :=
  mm_num hm (by rw [← hx]; exact t_num t) (.inl ⟨hx, fun _ => by rw [← hx]; have := t_lt t1; omega⟩) (.inr ⟨hbt, rfl, by rw [← hx]; exact t_ngt t2 (mm_hi hm hbt)⟩)
theorem w_ng {d : Array Nat} {k l h x : Nat} {a hb : Bool} (hm : MM d k l h a hb) (hx : x = d[k]!) (t : (FloatKind.f64.format.order x x != some .eq) = false) (hbt : hb = true)
    (t1 : (FloatKind.f64.format.order x l == some .lt) = false) (t2 : (FloatKind.f64.format.order x h == some .gt) = true) : MM d (k + 1) l x a true :=
  mm_num hm (by rw [← hx]; exact t_num t) (.inr ⟨hbt, rfl, by rw [← hx]; exact t_nlt t1 (t_num t)⟩) (.inl ⟨hx, fun _ => by rw [← hx]; have := t_gt t2; omega⟩)
theorem w_nn {d : Array Nat} {k l h x : Nat} {a hb : Bool} (hm : MM d k l h a hb) (hx : x = d[k]!) (t : (FloatKind.f64.format.order x x != some .eq) = false) (hbt : hb = true)
    (t1 : (FloatKind.f64.format.order x l == some .lt) = false) (t2 : (FloatKind.f64.format.order x h == some .gt) = false) : MM d (k + 1) l h a true :=
  mm_num hm (by rw [← hx]; exact t_num t) (.inr ⟨hbt, rfl, by rw [← hx]; exact t_nlt t1 (t_num t)⟩) (.inr ⟨hbt, rfl, by rw [← hx]; exact t_ngt t2 (mm_hi hm hbt)⟩)
theorem w_first {d : Array Nat} {k l h x : Nat} {a hb : Bool} (hm : MM d k l h a hb) (hx : x = d[k]!) (t : (FloatKind.f64.format.order x x != some .eq) = false) (hbt : ¬ hb = true) : MM d (k + 1) x x a true :=
  mm_num hm (by rw [← hx]; exact t_num t) (.inl ⟨hx, fun h => absurd h hbt⟩) (.inl ⟨hx, fun h => absurd h hbt⟩)

set_option maxHeartbeats 400000 in
theorem minmax_any (b off n c : Nat) (d : Array Nat) (w : World) (hn : n ≤ 131072) (h0 : 0 < n) (hR : RowF w b off n d) :
    Calls Try.prog 9 #[.slice (some ⟨b, off, none⟩) n c] w fun e w' => ∃ lo hi q, e = .returned (.tuple #[.float .f64 lo, .float .f64 hi]) ∧ LoHi d n lo hi ∧ w' = w.drewN q := by
  obtain ⟨hd, hc⟩ := hR
  have HC : Hid (∀ t, t < n → w.cell? ⟨b, off + t, none⟩ = some (.float .f64 d[t]!)) := hc
  clear hc hd
  go_enter Try.func9, Try.ntmps9
  go_wp2
  go_loop [4, 5, 6, 7, 8, 9] (fun lo hi an hl hh i => ∃ (k l h : Nat) (a hb : Bool), k ≤ n ∧ i = .int .i64 k ∧ lo = .float .f64 l ∧ hi = .float .f64 h ∧ an = .bool a ∧ hl = .bool hb ∧ hh = .bool hb ∧ MM d k l h a hb) (fun _ _ _ _ _ i => n - (intOf i).toNat)
  case atStart => exact ⟨0, 0, 0, false, false, Nat.zero_le _, rfl, rfl, rfl, rfl, rfl, rfl, mm_start d⟩
  case round =>
    obtain ⟨k, l, h, a, hb, hk, rfl, rfl, rfl, rfl, rfl, rfl, hmm⟩ := hrel
    have HMM : Hid (MM d k l h a hb) := hmm
    clear hmm
    by_cases hlt : k < n
    · obtain ⟨x, hx⟩ : ∃ x, x = d[k]! := ⟨_, rfl⟩
      have c1 : w.cell? ⟨b, off + k, none⟩ = some (.float .f64 x) := by rw [hx]; exact HC.out k hlt
      have HX : Hid (x = d[k]!) := hx
      clear hx
      go_wp2
      · go_round
        case rel => exact ⟨k + 1, _, _, _, _, by omega, by go_num, rfl, rfl, rfl, rfl, rfl, w_nan HMM.out HX.out ‹_›⟩
        case measure => simp [intOf]; omega
      · go_round
        case rel => exact ⟨k + 1, _, _, _, true, by omega, by go_num, rfl, rfl, rfl, rfl, rfl, w_lg HMM.out HX.out ‹_› ‹_› ‹_› ‹_›⟩
        case measure => simp [intOf]; omega
      · go_round
        case rel => exact ⟨k + 1, _, _, _, true, by omega, by go_num, rfl, rfl, rfl, rfl, by congr 1, w_ln HMM.out HX.out ‹_› ‹_› ‹_› ‹_›⟩
        case measure => simp [intOf]; omega
      · go_round
        case rel => exact ⟨k + 1, _, _, _, true, by omega, by go_num, rfl, rfl, rfl, by congr 1, rfl, w_ng HMM.out HX.out ‹_› ‹_› ‹_› ‹_›⟩
        case measure => simp [intOf]; omega
      · go_round
        case rel => exact ⟨k + 1, _, _, _, true, by omega, by go_num, rfl, rfl, rfl, by congr 1, by congr 1, w_nn HMM.out HX.out ‹_› ‹_› ‹_› ‹_›⟩
        case measure => simp [intOf]; omega
      · go_round
        case rel => exact ⟨k + 1, _, _, _, true, by omega, by go_num, rfl, rfl, rfl, rfl, rfl, w_first HMM.out HX.out ‹_› ‹_›⟩
        case measure => simp [intOf]; omega
    · obtain rfl : k = n := by omega
      cases a <;> cases hb
      all_goals go_wp2_with (go_at_call 16; refine (nan_any _).mono ?_; rintro e w' ⟨⟨r, rfl, hr⟩, rfl⟩)
      all_goals go_ret2
      · exact ⟨_, _, 1, rfl, mm_end HMM.out h0 (.inr ⟨rfl, rfl⟩) (.inl ⟨rfl, ‹_›⟩), rfl⟩
      · exact ⟨_, _, rfl, mm_end HMM.out h0 (.inr ⟨rfl, rfl⟩) (.inr ⟨rfl, rfl⟩), 0, rfl⟩
      · exact ⟨_, _, 2, rfl, mm_end HMM.out h0 (.inl ⟨rfl, ‹_›⟩) (.inl ⟨rfl, ‹_›⟩), rfl⟩
      · exact ⟨_, _, 1, rfl, mm_end HMM.out h0 (.inl ⟨rfl, ‹_›⟩) (.inr ⟨rfl, rfl⟩), rfl⟩

end Go.Proofs.Qxb6605729a
