import Derived.Test.Qxb6605729aFloat0
import Derived.Sort.Statements
namespace Go.Proofs.Qxb6605729a
open Ieee

/-! ### A float64's word: its sign, its rung, and a key that orders as Go does -/
def rungF (x : Nat) : Nat := x % 9223372036854775808
def negW (x : Nat) : Bool := x / 9223372036854775808 % 2 == 1
def lpF : Int := Ieee.double.leastPlace

theorem read_eq (x : Nat) : Ieee.double.read x =
    if rungF x < 4503599627370496 then .number (negW x) (rungF x) lpF
    else if rungF x < 9218868437227405312 then .number (negW x) (4503599627370496 + rungF x % 4503599627370496) (lpF + ((rungF x / 4503599627370496 - 1 : Nat) : Int))
    else if rungF x = 9218868437227405312 then .infinity (negW x)
    else .nan (negW x) (rungF x - 9218868437227405312) := rfl

/-- The magnitude in units of the least place. -/
def magF (r : Nat) : Nat := if r < 4503599627370496 then r else (4503599627370496 + r % 4503599627370496) * 2 ^ (r / 4503599627370496 - 1)

theorem magF_lt {r s : Nat} (h : r < s) : magF r < magF s := by
  unfold magF
  by_cases h1 : s < 4503599627370496
  · rw [if_pos (by omega), if_pos h1]; exact h
  · rw [if_neg h1]
    have p2 : 0 < 2 ^ (s / 4503599627370496 - 1) := Nat.two_pow_pos _
    by_cases h2 : r < 4503599627370496
    · rw [if_pos h2]
      have : (4503599627370496 + s % 4503599627370496) * 1 ≤ (4503599627370496 + s % 4503599627370496) * 2 ^ (s / 4503599627370496 - 1) := Nat.mul_le_mul_left _ p2
      omega
    · rw [if_neg h2]
      by_cases h3 : r / 4503599627370496 = s / 4503599627370496
      · rw [h3]
        exact Nat.mul_lt_mul_of_pos_right (by omega) p2
      · obtain ⟨k, hk⟩ : ∃ k, s / 4503599627370496 - 1 = (r / 4503599627370496 - 1) + (k + 1) := ⟨s / 4503599627370496 - 1 - (r / 4503599627370496 - 1) - 1, by omega⟩
        have q2 : 0 < 2 ^ (r / 4503599627370496 - 1) := Nat.two_pow_pos _
        rw [hk, Nat.pow_add, Nat.pow_succ, Nat.mul_comm (2 ^ (r / 4503599627370496 - 1)), ← Nat.mul_assoc]
        refine Nat.mul_lt_mul_of_pos_right ?_ q2
        have k1 : 0 < 2 ^ k := Nat.two_pow_pos _
        have : (4503599627370496 + s % 4503599627370496) * 2 ≤ (4503599627370496 + s % 4503599627370496) * (2 ^ k * 2) := Nat.mul_le_mul_left _ (by omega)
        omega

theorem magF_zero : magF 0 = 0 := rfl

theorem magF_lt_iff {r s : Nat} : magF r < magF s ↔ r < s := by
  refine ⟨fun h => ?_, magF_lt⟩
  rcases Nat.lt_or_ge r s with h2 | h2
  · exact h2
  · rcases Nat.lt_or_eq_of_le h2 with h3 | h3
    · have := magF_lt h3; omega
    · subst h3; omega

theorem magF_eq_iff {r s : Nat} : magF r = magF s ↔ r = s := by
  refine ⟨fun h => ?_, fun h => by rw [h]⟩
  have a := @magF_lt_iff r s
  have b := @magF_lt_iff s r
  omega

/-- z with its sign. -/
def sg (s : Bool) (z : Nat) : Int := if s then -(z : Int) else z

theorem sg_mag_lt (s t : Bool) (q r : Nat) : sg s (magF q) < sg t (magF r) ↔ sg s q < sg t r := by
  have h1 := @magF_lt_iff q r
  have h2 := @magF_lt_iff r q
  have h3 := @magF_lt_iff 0 q
  have h4 := @magF_lt_iff 0 r
  rw [magF_zero] at h3 h4
  unfold sg
  cases s <;> cases t <;> simp <;> omega

theorem sg_mag_eq (s t : Bool) (q r : Nat) : sg s (magF q) = sg t (magF r) ↔ sg s q = sg t r := by
  have h1 := sg_mag_lt s t q r
  have h2 := sg_mag_lt t s r q
  omega

theorem sg_mul (s : Bool) (u p : Nat) : sg s (u * p) = sg s u * p := by
  unfold sg; cases s <;> simp [Int.natCast_mul, Int.neg_mul]

theorem signed_eq (s : Bool) (m k : Nat) : signed s m k = sg s (m * 2 ^ k) := by
  unfold signed sg; rw [Nat.shiftLeft_eq]

theorem cmp_congr {a b c d : Int} (h1 : a < b ↔ c < d) (h2 : a = b ↔ c = d) : compare a b = compare c d := by
  show (if a < b then Ordering.lt else if a = b then .eq else .gt) = (if c < d then Ordering.lt else if c = d then .eq else .gt)
  by_cases x : a < b
  · rw [if_pos x, if_pos (h1.1 x)]
  · rw [if_neg x, if_neg (fun y => x (h1.2 y))]
    by_cases z : a = b
    · rw [if_pos z, if_pos (h2.1 z)]
    · rw [if_neg z, if_neg (fun y => z (h2.2 y))]

theorem cmpI_lt {a b : Int} (h : a < b) : compare a b = .lt := by
  show (if a < b then Ordering.lt else if a = b then .eq else .gt) = _
  rw [if_pos h]
theorem cmpI_gt {a b : Int} (h : b < a) : compare a b = .gt := by
  show (if a < b then Ordering.lt else if a = b then .eq else .gt) = _
  rw [if_neg (by omega), if_neg (by omega)]

/-- Numbers whose places lie at or above the least place compare as their magnitudes there. -/
theorem order_numbers (s t : Bool) (m n a b : Nat) :
    Datum.order (.number s m (lpF + (a : Int))) (.number t n (lpF + (b : Int))) = some (compare (sg s (m * 2 ^ a)) (sg t (n * 2 ^ b))) := by
  show some (compare (signed s m (lpF + (a : Int) - min (lpF + (a : Int)) (lpF + (b : Int))).toNat) (signed t n (lpF + (b : Int) - min (lpF + (a : Int)) (lpF + (b : Int))).toNat)) = _
  have ea : (lpF + (a : Int) - min (lpF + (a : Int)) (lpF + (b : Int))).toNat = a - min a b := by omega
  have eb : (lpF + (b : Int) - min (lpF + (a : Int)) (lpF + (b : Int))).toNat = b - min a b := by omega
  rw [ea, eb, signed_eq, signed_eq]
  have pa : m * 2 ^ a = m * 2 ^ (a - min a b) * 2 ^ min a b := by rw [Nat.mul_assoc, ← Nat.pow_add]; congr 2; omega
  have pb : n * 2 ^ b = n * 2 ^ (b - min a b) * 2 ^ min a b := by rw [Nat.mul_assoc, ← Nat.pow_add]; congr 2; omega
  rw [pa, pb, sg_mul _ (m * 2 ^ (a - min a b)), sg_mul _ (n * 2 ^ (b - min a b))]
  have hp : (0 : Int) < ((2 ^ min a b : Nat) : Int) := by exact_mod_cast Nat.two_pow_pos _
  congr 1
  exact cmp_congr (Int.mul_lt_mul_right hp).symm ⟨fun h => by rw [h], fun h => Int.eq_of_mul_eq_mul_right (by omega) h⟩

/-- The key: the rung with the sign; all NaNs below all else. -/
def keyF (x : Nat) : Int := if 9218868437227405312 < rungF x then -9223372036854775808 else sg (negW x) (rungF x)

theorem rungF_lt (x : Nat) : rungF x < 9223372036854775808 := Nat.mod_lt _ (by decide)

theorem order_nan {x y : Nat} (h : 9218868437227405312 < rungF x ∨ 9218868437227405312 < rungF y) : Ieee.double.order x y = none := by
  show (Ieee.double.read x).order (Ieee.double.read y) = none
  rcases h with h | h
  · rw [read_eq x, if_neg (by omega), if_neg (by omega), if_neg (by omega)]; rfl
  · rw [read_eq y, if_neg (by omega), if_neg (by omega), if_neg (by omega)]
    cases Ieee.double.read x <;> rfl

/-- A finite word reads as a number of its magnitude. -/
theorem read_fin {x : Nat} (h : rungF x < 9218868437227405312) : ∃ m a : Nat, Ieee.double.read x = .number (negW x) m (lpF + (a : Int)) ∧ m * 2 ^ a = magF (rungF x) := by
  rw [read_eq]
  by_cases h1 : rungF x < 4503599627370496
  · rw [if_pos h1]
    exact ⟨rungF x, 0, by simp, by unfold magF; rw [if_pos h1]; simp⟩
  · rw [if_neg h1, if_pos h]
    exact ⟨_, _, rfl, by unfold magF; rw [if_neg h1]⟩

theorem read_inf {x : Nat} (h : rungF x = 9218868437227405312) : Ieee.double.read x = .infinity (negW x) := by
  rw [read_eq, if_neg (by omega), if_neg (by omega), if_pos h]

theorem order_key {x y : Nat} (hx : rungF x ≤ 9218868437227405312) (hy : rungF y ≤ 9218868437227405312) : Ieee.double.order x y = some (compare (keyF x) (keyF y)) := by
  show (Ieee.double.read x).order (Ieee.double.read y) = _
  unfold keyF
  rw [if_neg (by omega), if_neg (by omega)]
  rcases Nat.lt_or_eq_of_le hx with h1 | h1
  · obtain ⟨m, a, e1, e2⟩ := read_fin h1
    rcases Nat.lt_or_eq_of_le hy with h2 | h2
    · obtain ⟨n, b, f1, f2⟩ := read_fin h2
      rw [e1, f1, order_numbers, e2, f2]
      congr 1
      exact cmp_congr (sg_mag_lt _ _ _ _) (sg_mag_eq _ _ _ _)
    · rw [e1, read_inf h2]
      show some (if negW y then Ordering.gt else .lt) = some (compare _ _)
      rw [h2]
      have hr : sg (negW x) (rungF x) < 9218868437227405312 ∧ -9218868437227405312 < sg (negW x) (rungF x) := by unfold sg; cases negW x <;> simp <;> omega
      cases negW y
      · rw [cmpI_lt (a := sg (negW x) (rungF x)) (b := sg false 9218868437227405312) (by show _ < (9218868437227405312 : Int); exact hr.1)]; rfl
      · rw [cmpI_gt (a := sg (negW x) (rungF x)) (b := sg true 9218868437227405312) (by show (-9218868437227405312 : Int) < _; exact hr.2)]; rfl
  · rw [read_inf h1]
    rcases Nat.lt_or_eq_of_le hy with h2 | h2
    · obtain ⟨n, b, f1, f2⟩ := read_fin h2
      rw [f1]
      show some (if negW x then Ordering.lt else .gt) = some (compare _ _)
      rw [h1]
      have hr : sg (negW y) (rungF y) < 9218868437227405312 ∧ -9218868437227405312 < sg (negW y) (rungF y) := by unfold sg; cases negW y <;> simp <;> omega
      cases negW x
      · rw [cmpI_gt (a := sg false 9218868437227405312) (b := sg (negW y) (rungF y)) (by show _ < (9218868437227405312 : Int); exact hr.1)]; rfl
      · rw [cmpI_lt (a := sg true 9218868437227405312) (b := sg (negW y) (rungF y)) (by show (-9218868437227405312 : Int) < _; exact hr.2)]; rfl
    · rw [read_inf h2, h1, h2]
      cases negW x <;> cases negW y <;> rfl

theorem key_lo (x : Nat) (h : rungF x ≤ 9218868437227405312) : -9218868437227405312 ≤ keyF x ∧ keyF x ≤ 9218868437227405312 := by
  unfold keyF sg; rw [if_neg (by omega)]; cases negW x <;> simp <;> omega
theorem key_nan (x : Nat) (h : 9218868437227405312 < rungF x) : keyF x = -9223372036854775808 := by
  unfold keyF; rw [if_pos h]

theorem nan_iff (x : Nat) : 9218868437227405312 < rungF x ↔ keyF x = -9223372036854775808 := by
  refine ⟨key_nan x, fun h => ?_⟩
  rcases Nat.lt_or_ge 9218868437227405312 (rungF x) with h2 | h2
  · exact h2
  · have := key_lo x h2; omega

theorem cmp_lt {a b : Int} : (some (compare a b) == some Ordering.lt) = decide (a < b) := by
  show (some (if a < b then Ordering.lt else if a = b then .eq else .gt) == some Ordering.lt) = _
  by_cases h : a < b
  · simp [h]
  · by_cases h2 : a = b <;> simp [h, h2]
theorem cmp_eq {a b : Int} : (some (compare a b) == some Ordering.eq) = decide (a = b) := by
  show (some (if a < b then Ordering.lt else if a = b then .eq else .gt) == some Ordering.eq) = _
  by_cases h : a < b
  · simp [h]; omega
  · by_cases h2 : a = b <;> simp [h, h2]
theorem cmp_gt {a b : Int} : (some (compare a b) == some Ordering.gt) = decide (b < a) := by
  show (some (if a < b then Ordering.lt else if a = b then .eq else .gt) == some Ordering.gt) = _
  by_cases h : a < b
  · simp [h]; omega
  · by_cases h2 : a = b
    · simp [h2]
    · simp [h, h2]; omega

/-! ### Go's comparisons, by the key -/
theorem nanF_eq (x : Nat) : nanF x = decide (keyF x = -9223372036854775808) := by
  unfold nanF
  rcases Nat.lt_or_ge 9218868437227405312 (rungF x) with h | h
  · rw [order_nan (Or.inl h), key_nan x h]; rfl
  · rw [order_key h h, bne, cmp_eq]
    have := key_lo x h
    simp; omega

theorem lt_eq (x y : Nat) : (Ieee.double.order x y == some .lt) = decide (keyF x ≠ -9223372036854775808 ∧ keyF x < keyF y) := by
  rcases Nat.lt_or_ge 9218868437227405312 (rungF x) with h | h
  · rw [order_nan (Or.inl h), key_nan x h]; simp
  · have kx := key_lo x h
    rcases Nat.lt_or_ge 9218868437227405312 (rungF y) with h2 | h2
    · rw [order_nan (Or.inr h2), key_nan y h2]; simp; omega
    · rw [order_key h h2, cmp_lt]; simp; omega

theorem gt_eq (x y : Nat) : (Ieee.double.order x y == some .gt) = decide (keyF y ≠ -9223372036854775808 ∧ keyF y < keyF x) := by
  rcases Nat.lt_or_ge 9218868437227405312 (rungF y) with h | h
  · rw [order_nan (Or.inr h), key_nan y h]; simp
  · have kx := key_lo y h
    rcases Nat.lt_or_ge 9218868437227405312 (rungF x) with h2 | h2
    · rw [order_nan (Or.inl h2), key_nan x h2]; simp; omega
    · rw [order_key h2 h, cmp_gt]; simp; omega

theorem eq_eq (x y : Nat) : (Ieee.double.order x y == some .eq) = decide (keyF x ≠ -9223372036854775808 ∧ keyF x = keyF y) := by
  rcases Nat.lt_or_ge 9218868437227405312 (rungF x) with h | h
  · rw [order_nan (Or.inl h), key_nan x h]; simp
  · have kx := key_lo x h
    rcases Nat.lt_or_ge 9218868437227405312 (rungF y) with h2 | h2
    · rw [order_nan (Or.inr h2), key_nan y h2]; simp
    · rw [order_key h h2, cmp_eq]; simp <;> omega

theorem key_ge (x : Nat) : -9223372036854775808 ≤ keyF x := by
  rcases Nat.lt_or_ge 9218868437227405312 (rungF x) with h | h
  · rw [key_nan x h]; omega
  · have := key_lo x h; omega

theorem ltF_eq (x y : Nat) : ltF x y = decide (keyF x < keyF y) := by
  unfold ltF
  rw [nanF_eq, nanF_eq, lt_eq]
  have hx := key_ge x
  have hy := key_ge y
  by_cases h1 : keyF x = -9223372036854775808 <;> by_cases h2 : keyF y = -9223372036854775808 <;> simp [h1, h2] <;> omega

theorem swo_ltF : Go.Sort.SWO ltF where
  irrefl x := by rw [ltF_eq]; simp
  trans x y z h1 h2 := by rw [ltF_eq] at *; simp at *; omega
  ntrans x y z h1 h2 := by rw [ltF_eq] at *; simp at *; omega

end Go.Proofs.Qxb6605729a
