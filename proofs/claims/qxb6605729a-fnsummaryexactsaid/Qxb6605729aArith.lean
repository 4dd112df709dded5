import Derived.Test.Qxb6605729aKey
namespace Go.Proofs.Qxb6605729a
open Ieee

/-! ### Negation -/
theorem rungF_xor (x : Nat) : rungF (x ^^^ 9223372036854775808) = rungF x := by
  unfold rungF
  have h : (9223372036854775808 : Nat) = 2 ^ 63 := rfl
  rw [h, Nat.xor_mod_two_pow, Nat.mod_self, Nat.xor_zero]
theorem negW_xor (x : Nat) : negW (x ^^^ 9223372036854775808) = !negW x := by
  unfold negW
  have h : (9223372036854775808 : Nat) = 2 ^ 63 := rfl
  rw [h, Nat.xor_div_two_pow, Nat.div_self (Nat.two_pow_pos _)]
  have e : (x / 2 ^ 63 ^^^ 1) % 2 = (x / 2 ^ 63 % 2) ^^^ 1 := by
    have := Nat.xor_mod_two_pow (a := x / 2 ^ 63) (b := 1) (n := 1)
    simpa using this
  rw [e]
  rcases Nat.mod_two_eq_zero_or_one (x / 2 ^ 63) with h2 | h2 <;> rw [h2] <;> rfl

theorem negFloat_eq (x : Nat) : Op.negFloat .f64 x = x ^^^ 9223372036854775808 := rfl

theorem read_neg (x : Nat) : Ieee.double.read (Op.negFloat .f64 x) = (Ieee.double.read x).opposite := by
  rw [negFloat_eq, read_eq, read_eq, rungF_xor, negW_xor]
  by_cases h1 : rungF x < 4503599627370496
  · rw [if_pos h1, if_pos h1]; rfl
  · rw [if_neg h1, if_neg h1]
    by_cases h2 : rungF x < 9218868437227405312
    · rw [if_pos h2, if_pos h2]; rfl
    · rw [if_neg h2, if_neg h2]
      by_cases h3 : rungF x = 9218868437227405312
      · rw [if_pos h3, if_pos h3]; rfl
      · rw [if_neg h3, if_neg h3]; rfl

theorem sg_not (s : Bool) (z : Nat) : sg (!s) z = - sg s z := by unfold sg; cases s <;> simp

/-- The key of the opposite. -/
def negK (k : Int) : Int := if k = -9223372036854775808 then k else -k

theorem key_neg (x : Nat) : keyF (Op.negFloat .f64 x) = negK (keyF x) := by
  unfold negK
  rw [negFloat_eq]
  rcases Nat.lt_or_ge 9218868437227405312 (rungF x) with h | h
  · rw [key_nan x h, key_nan _ (by rw [rungF_xor]; exact h)]; rfl
  · have := key_lo x h
    rw [if_neg (by omega)]
    unfold keyF
    rw [rungF_xor, negW_xor, if_neg (by omega), if_neg (by omega), sg_not]

/-! ### What is written: a rung and a sign -/
def Rn (mag : Nat) (place : Int) : Nat :=
  if mag = 0 then 0 else
  min ((max (place + mag.log2 - Ieee.double.fractionBits) Ieee.double.leastPlace - Ieee.double.leastPlace).toNat * Ieee.double.binade +
    Toward.even.cut false (mag <<< (place - max (place + mag.log2 - Ieee.double.fractionBits) Ieee.double.leastPlace).toNat) (max (place + mag.log2 - Ieee.double.fractionBits) Ieee.double.leastPlace - place).toNat) 9218868437227405312

theorem nearest_eq (s : Bool) (mag : Nat) (place : Int) : Ieee.double.nearest s mag place = Ieee.double.word s (Rn mag place) := by
  unfold Format.nearest Rn
  by_cases h : mag = 0
  · rw [if_pos h, if_pos h]
  · rw [if_neg h, if_neg h]; rfl

theorem Rn_le (mag : Nat) (place : Int) : Rn mag place ≤ 9218868437227405312 := by
  unfold Rn; split
  · omega
  · exact Nat.min_le_right _ _
theorem Rn_zero (place : Int) : Rn 0 place = 0 := by unfold Rn; rw [if_pos rfl]

theorem key_word (s : Bool) (r : Nat) (h : r ≤ 9218868437227405312) : keyF (Ieee.double.word s r) = sg s r := by
  cases s
  · show keyF r = _
    have e1 : rungF r = r := Nat.mod_eq_of_lt (by omega)
    have e2 : negW r = false := by unfold negW; rw [Nat.div_eq_of_lt (by omega)]; rfl
    unfold keyF; rw [e1, e2, if_neg (by omega)]
  · show keyF (9223372036854775808 + r) = _
    have e1 : rungF (9223372036854775808 + r) = r := by unfold rungF; omega
    have e2 : negW (9223372036854775808 + r) = true := by
      unfold negW
      have : (9223372036854775808 + r) / 9223372036854775808 = 1 := by omega
      rw [this]; rfl
    unfold keyF; rw [e1, e2, if_neg (by omega)]

/-- The key of a result of arithmetic: none is a NaN. -/
def kk : Option Nat → Int
  | none => -9223372036854775808
  | some r => keyF r
def kO : Option Datum → Int
  | some (.number s m p) => sg s (Rn m p)
  | some (.infinity s) => sg s 9218868437227405312
  | _ => -9223372036854775808

theorem kk_map (o : Option Datum) (h : ∀ s f, o ≠ some (.nan s f)) : kk (o.map Ieee.double.write) = kO o := by
  match o with
  | none => rfl
  | some (.number s m p) =>
    show keyF (Ieee.double.nearest s m p) = _
    rw [nearest_eq, key_word _ _ (Rn_le _ _)]; rfl
  | some (.infinity s) => exact key_word _ _ (Nat.le_refl _)
  | some (.nan s f) => exact absurd rfl (h s f)

theorem sg_bd (s : Bool) {r : Nat} (h : r ≤ 9218868437227405312) : sg s r ≠ -9223372036854775808 := by
  unfold sg; cases s <;> simp <;> omega

theorem kO_none {o : Option Datum} (h : ∀ s f, o ≠ some (.nan s f)) : kO o = -9223372036854775808 ↔ o = none := by
  match o with
  | none => simp [kO]
  | some (.number s m p) => simp [kO, sg_bd s (Rn_le m p)]
  | some (.infinity s) => simp [kO, sg_bd s (Nat.le_refl 9218868437227405312)]
  | some (.nan s f) => exact absurd rfl (h s f)

theorem sum_fine (a b : Datum) (s : Bool) (f : Nat) : a.sum b ≠ some (.nan s f) := by
  cases a <;> cases b <;> simp [Datum.sum]
theorem quot_fine (k : Nat) (a b : Datum) (s : Bool) (f : Nat) : a.quotient k b ≠ some (.nan s f) := by
  cases a <;> cases b <;> simp [Datum.quotient]
  split
  · split <;> simp
  · simp

theorem kk_add (x y : Nat) : kk (Ieee.double.add x y) = kO ((Ieee.double.read x).sum (Ieee.double.read y)) := kk_map _ (sum_fine _ _)
theorem kk_div (x y : Nat) : kk (Ieee.double.div x y) = kO ((Ieee.double.read x).quotient 54 (Ieee.double.read y)) := kk_map _ (quot_fine _ _ _)

/-! ### Two data of one key: the same, or two zeros -/
def Alike (d e : Datum) : Prop := d = e ∨ ∃ s t, d = .number s 0 lpF ∧ e = .number t 0 lpF

theorem alike_of_key {x y : Nat} (h : keyF x = keyF y) (hn : keyF x ≠ -9223372036854775808) : Alike (Ieee.double.read x) (Ieee.double.read y) := by
  have nx : rungF x ≤ 9218868437227405312 := by have := nan_iff x; omega
  have ny : rungF y ≤ 9218868437227405312 := by have := nan_iff y; omega
  unfold keyF at h
  rw [if_neg (by omega), if_neg (by omega)] at h
  by_cases h0 : rungF x = 0
  · have h1 : rungF y = 0 := by rw [h0] at h; unfold sg at h; cases negW x <;> cases negW y <;> simp at h <;> omega
    refine Or.inr ⟨negW x, negW y, ?_, ?_⟩
    · rw [read_eq, h0]; rfl
    · rw [read_eq, h1]; rfl
  · have h1 : rungF x = rungF y ∧ negW x = negW y := by
      unfold sg at h; cases hx : negW x <;> cases hy : negW y <;> simp [hx, hy] at h ⊢ <;> omega
    left
    rw [read_eq, read_eq, h1.1, h1.2]

theorem signed_zero (s : Bool) (k : Nat) : signed s 0 k = 0 := by unfold signed; cases s <;> simp

theorem sg_zero (s : Bool) : sg s 0 = 0 := by unfold sg; cases s <;> simp

/-- What a sum of numbers is, by its total alone. -/
theorem kO_total (b c : Bool) (total : Int) (base : Int) :
    kO (some (.number (if total = 0 then b else decide (total < 0)) total.natAbs base)) = kO (some (.number (if total = 0 then c else decide (total < 0)) total.natAbs base)) := by
  by_cases h : total = 0
  · subst h
    show sg _ (Rn 0 base) = sg _ (Rn 0 base)
    rw [Rn_zero, sg_zero, sg_zero]
  · rw [if_neg h, if_neg h]

theorem sum_left {d d' : Datum} (h : Alike d d') (e : Datum) : kO (d.sum e) = kO (d'.sum e) := by
  rcases h with rfl | ⟨s, t, rfl, rfl⟩
  · rfl
  · cases e with
    | nan _ _ => rfl
    | infinity _ => rfl
    | number u n j =>
      show kO (some (.number _ _ _)) = kO (some (.number _ _ _))
      simp only [signed_zero]
      exact kO_total _ _ _ _

theorem sum_right {d d' : Datum} (h : Alike d d') (e : Datum) : kO (e.sum d) = kO (e.sum d') := by
  rcases h with rfl | ⟨s, t, rfl, rfl⟩
  · rfl
  · cases e with
    | nan _ _ => rfl
    | infinity _ => rfl
    | number u n j =>
      show kO (some (.number _ _ _)) = kO (some (.number _ _ _))
      simp only [signed_zero]
      exact kO_total _ _ _ _

theorem signed_not (s : Bool) (m k : Nat) : signed (!s) m k = - signed s m k := by unfold signed; cases s <;> simp

theorem sum_neg (d e : Datum) : kO (e.opposite.sum d.opposite) = negK (kO (d.sum e)) := by
  cases d with
  | nan _ _ => cases e <;> rfl
  | infinity s =>
    cases e with
    | nan _ _ => rfl
    | infinity t => cases s <;> cases t <;> rfl
    | number t n j => cases s <;> rfl
  | number s m i =>
    cases e with
    | nan _ _ => rfl
    | infinity t => cases t <;> rfl
    | number t n j =>
      show kO (some (.number _ _ _)) = negK (kO (some (.number _ _ _)))
      simp only [signed_not]
      rw [Int.min_comm j i]
      generalize hA : signed s m (i - min i j).toNat = A
      generalize hB : signed t n (j - min i j).toNat = B
      have e1 : -B + -A = -(A + B) := by omega
      rw [e1, Int.natAbs_neg]
      show sg _ _ = negK (sg _ _)
      by_cases h0 : A + B = 0
      · rw [h0]
        show sg _ (Rn 0 _) = negK (sg _ (Rn 0 _))
        rw [Rn_zero, sg_zero, sg_zero]; rfl
      · rw [if_neg h0, if_neg (by omega)]
        unfold negK
        rw [if_neg (sg_bd _ (Rn_le _ _)), ← sg_not]
        congr 1
        by_cases h1 : A + B < 0 <;> simp [h1] <;> omega

/-! ### Halving -/
def twoF : Nat := 4611686018427387904

theorem read_two : ∃ n j, Ieee.double.read twoF = .number false n j ∧ n ≠ 0 := ⟨4503599627370496, _, rfl, by decide⟩

theorem quot_alike {d d' : Datum} (h : Alike d d') (k n : Nat) (j : Int) (hn : n ≠ 0) : kO (d.quotient k (.number false n j)) = kO (d'.quotient k (.number false n j)) := by
  rcases h with rfl | ⟨s, t, rfl, rfl⟩
  · rfl
  · simp [Datum.quotient, hn, kO, Rn_zero, sg_zero]

theorem quot_neg (d : Datum) (k n : Nat) (j : Int) (hn : n ≠ 0) : kO (d.opposite.quotient k (.number false n j)) = negK (kO (d.quotient k (.number false n j))) := by
  cases d with
  | nan _ _ => rfl
  | infinity s => cases s <;> rfl
  | number s m i =>
    simp only [Datum.opposite, Datum.quotient, hn, if_false, kO, Bool.xor_false]
    unfold negK
    rw [if_neg (sg_bd _ (Rn_le _ _)), sg_not]

/-- '(x + y) / 2'. -/
def halfSum (x y : Nat) : Option Nat := (Ieee.double.add x y).bind fun r => Ieee.double.div r twoF
/-- .. and its key. -/
def hk (x y : Nat) : Int := kk (halfSum x y)

theorem div_congr {r r' : Nat} (h : keyF r = keyF r') (hn : keyF r ≠ -9223372036854775808) : kk (Ieee.double.div r twoF) = kk (Ieee.double.div r' twoF) := by
  obtain ⟨n, j, e, h0⟩ := read_two
  rw [kk_div, kk_div, e]
  exact quot_alike (alike_of_key h hn) _ _ _ h0

theorem div_neg (r : Nat) : kk (Ieee.double.div (Op.negFloat .f64 r) twoF) = negK (kk (Ieee.double.div r twoF)) := by
  obtain ⟨n, j, e, h0⟩ := read_two
  rw [kk_div, kk_div, e, read_neg]
  exact quot_neg _ _ _ _ h0

theorem add_some {x y r : Nat} (h : Ieee.double.add x y = some r) : keyF r ≠ -9223372036854775808 := by
  have h1 := kk_add x y
  rw [h] at h1
  intro hr
  have h2 := (kO_none (sum_fine (Ieee.double.read x) (Ieee.double.read y))).1 (by rw [← h1]; exact hr)
  unfold Format.add at h
  rw [h2] at h
  cases h

theorem read_nan {x : Nat} (h : keyF x = -9223372036854775808) : ∃ s f, Ieee.double.read x = .nan s f := by
  have := (nan_iff x).2 h
  rw [read_eq, if_neg (by omega), if_neg (by omega), if_neg (by omega)]
  exact ⟨_, _, rfl⟩

theorem add_congr {x y x' y' : Nat} (hx : keyF x = keyF x') (hy : keyF y = keyF y') : kk (Ieee.double.add x y) = kk (Ieee.double.add x' y') := by
  rw [kk_add, kk_add]
  by_cases h1 : keyF x = -9223372036854775808
  · obtain ⟨s, f, e⟩ := read_nan h1
    obtain ⟨s', f', e'⟩ := read_nan (hx ▸ h1)
    rw [e, e']; rfl
  · by_cases h2 : keyF y = -9223372036854775808
    · obtain ⟨s, f, e⟩ := read_nan h2
      obtain ⟨s', f', e'⟩ := read_nan (hy ▸ h2)
      rw [e, e']
      cases Ieee.double.read x <;> cases Ieee.double.read x' <;> rfl
    · rw [sum_left (alike_of_key hx h1), sum_right (alike_of_key hy h2)]

theorem hk_congr {x y x' y' : Nat} (hx : keyF x = keyF x') (hy : keyF y = keyF y') : hk x y = hk x' y' := by
  have h := add_congr hx hy
  unfold hk halfSum
  cases e : Ieee.double.add x y with
  | none =>
    cases e' : Ieee.double.add x' y' with
    | none => rfl
    | some r' => rw [e, e'] at h; exact absurd h.symm (add_some e')
  | some r =>
    cases e' : Ieee.double.add x' y' with
    | none => rw [e, e'] at h; exact absurd h (add_some e)
    | some r' =>
      rw [e, e'] at h
      exact div_congr h (add_some e)

theorem hk_neg (x y : Nat) : hk (Op.negFloat .f64 y) (Op.negFloat .f64 x) = negK (hk x y) := by
  have h : kk (Ieee.double.add (Op.negFloat .f64 y) (Op.negFloat .f64 x)) = negK (kk (Ieee.double.add x y)) := by
    rw [kk_add, kk_add, read_neg, read_neg]
    exact sum_neg _ _
  unfold hk halfSum
  cases e : Ieee.double.add x y with
  | none =>
    cases e' : Ieee.double.add (Op.negFloat .f64 y) (Op.negFloat .f64 x) with
    | none => rfl
    | some r' => rw [e, e'] at h; exact absurd h (add_some e')
  | some r =>
    cases e' : Ieee.double.add (Op.negFloat .f64 y) (Op.negFloat .f64 x) with
    | none =>
      rw [e, e'] at h
      have hb := add_some e
      have hc : negK (keyF r) ≠ -9223372036854775808 := by
        unfold negK; rw [if_neg hb]
        have := nan_iff r
        have := key_lo r (by omega)
        omega
      exact absurd h.symm hc
    | some r' =>
      rw [e, e'] at h
      have h2 : keyF r' = keyF (Op.negFloat .f64 r) := by rw [key_neg]; exact h
      show kk (Ieee.double.div r' twoF) = negK (kk (Ieee.double.div r twoF))
      rw [div_congr h2 (add_some e'), div_neg]

end Go.Proofs.Qxb6605729a
