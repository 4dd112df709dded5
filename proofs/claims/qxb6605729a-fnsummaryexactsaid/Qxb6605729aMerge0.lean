import Derived.Test.Qxb6605729aPlain
namespace Go.Proofs.Qxb6605729a
open Go.RowKit

/-! ### The worlds of the merge sort: two rows of the call's own -/
def MW (w0 : World) (ga gb : Nat) (A B : Array Nat) (wr : World) : Prop :=
  Below w0.heap.size w0 wr ∧ w0.heap.size ≤ ga ∧ w0.heap.size ≤ gb ∧ ga ≠ gb ∧ ga < wr.heap.size ∧ gb < wr.heap.size ∧ Go.Sort.Holds encF wr ga 0 A ∧ Go.Sort.Holds encF wr gb 0 B

theorem MW.drewN {w0 wr : World} {ga gb : Nat} {A B : Array Nat} (h : MW w0 ga gb A B wr) (q : Nat) : MW w0 ga gb A B (wr.drewN q) :=
  ⟨below_drewN h.1 q, h.2.1, h.2.2.1, h.2.2.2.1, h.2.2.2.2.1, h.2.2.2.2.2.1, h.2.2.2.2.2.2.1, h.2.2.2.2.2.2.2⟩
theorem MW.flip {w0 wr : World} {ga gb : Nat} {A B : Array Nat} (h : MW w0 ga gb A B wr) : MW w0 gb ga B A wr :=
  ⟨h.1, h.2.2.1, h.2.1, Ne.symm h.2.2.2.1, h.2.2.2.2.2.1, h.2.2.2.2.1, h.2.2.2.2.2.2.2, h.2.2.2.2.2.2.1⟩
theorem MW.cellA {w0 wr : World} {ga gb : Nat} {A B : Array Nat} (h : MW w0 ga gb A B wr) {i : Nat} (hi : i < A.size) : wr.cell? ⟨ga, i, none⟩ = some (.float .f64 A[i]!) := by
  have := (h.2.2.2.2.2.2.1 i hi).1; rwa [Nat.zero_add] at this
theorem MW.cellB {w0 wr : World} {ga gb : Nat} {A B : Array Nat} (h : MW w0 ga gb A B wr) {i : Nat} (hi : i < B.size) : wr.cell? ⟨gb, i, none⟩ = some (.float .f64 B[i]!) := h.flip.cellA hi
theorem MW.frozenB {w0 wr : World} {ga gb : Nat} {A B : Array Nat} (h : MW w0 ga gb A B wr) {i : Nat} (hi : i < B.size) : wr.frozen? ⟨gb, i, none⟩ = false := by
  have := (h.2.2.2.2.2.2.2 i hi).2; rwa [Nat.zero_add] at this

theorem holds_setCell {wr : World} {g : Nat} {B : Array Nat} (h : Go.Sort.Holds encF wr g 0 B) {k : Nat} (hk : k < B.size) (x : Nat) : Go.Sort.Holds encF (wr.setCell ⟨g, k, none⟩ (.float .f64 x)) g 0 (B.setIfInBounds k x) := by
  have e := Go.Sort.putRow_set encF wr g 0 B k x hk
  rw [Nat.zero_add, Go.Sort.putRow_self _ _ _ _ _ h] at e
  show Go.Sort.Holds encF (wr.setCell ⟨g, k, none⟩ (encF x)) g 0 _
  rw [e]
  exact Go.Sort.holds_putRow _ _ _ _ B _ h (by simp)
theorem holds_setCell_other {wr : World} {g g' : Nat} {A : Array Nat} (h : Go.Sort.Holds encF wr g 0 A) (hne : g ≠ g') {B : Array Nat} (hB : Go.Sort.Holds encF wr g' 0 B) {k : Nat} (hk : k < B.size) (x : Nat) :
    Go.Sort.Holds encF (wr.setCell ⟨g', k, none⟩ (.float .f64 x)) g 0 A := by
  have e := Go.Sort.putRow_set encF wr g' 0 B k x hk
  rw [Nat.zero_add, Go.Sort.putRow_self _ _ _ _ _ hB] at e
  show Go.Sort.Holds encF (wr.setCell ⟨g', k, none⟩ (encF x)) g 0 _
  rw [e]
  exact fun j hj => ⟨by rw [Go.Sort.cell?_putRow_other _ _ _ _ _ _ (Or.inl hne)]; exact (h j hj).1, by rw [Go.Sort.frozen?_putRow]; exact (h j hj).2⟩

theorem MW.store {w0 wr : World} {ga gb : Nat} {A B : Array Nat} (h : MW w0 ga gb A B wr) {k : Nat} (hk : k < B.size) (x : Nat) :
    MW w0 ga gb A (B.setIfInBounds k x) (wr.setCell ⟨gb, k, none⟩ (.float .f64 x)) := by
  obtain ⟨h1, h2, h3, h4, h5, h6, h7, h8⟩ := h
  refine ⟨h1.setCell (p := ⟨gb, k, none⟩) h3 _, h2, h3, h4, ?_, ?_, holds_setCell_other h7 h4 h8 hk x, holds_setCell h8 hk x⟩
  · simpa using h5
  · simpa using h6

/-! ### The plain law of merging -/
/-- Ascending within each block of width W, below L. -/
def Blk (W L : Nat) (B : Array Nat) : Prop := ∀ i j, i < j → j < L → i / W = j / W → keyF B[i]! ≤ keyF B[j]!

/-- The middle loop's: up to L the row B holds what A held, in blocks of width V. -/
def Mid (A B : Array Nat) (V L : Nat) : Prop := (B.toList.take L).Perm (A.toList.take L) ∧ Blk V L B

/-- The merge's: B up to k is A up to i and A from m to j; from lo on B ascends, and nothing that is left is less. -/
def Mrg (A B : Array Nat) (V lo m h i j k : Nat) : Prop :=
  (B.toList.take k).Perm (A.toList.take i ++ (A.toList.drop m).take (j - m)) ∧ Blk V lo B ∧
  (∀ x y, lo ≤ x → x < y → y < k → keyF B[x]! ≤ keyF B[y]!) ∧
  (∀ x y, lo ≤ x → x < k → i ≤ y → y < m → keyF B[x]! ≤ keyF A[y]!) ∧ (∀ x y, lo ≤ x → x < k → j ≤ y → y < h → keyF B[x]! ≤ keyF A[y]!)

/-- The two halves that are merged ascend. -/
def Halves (A : Array Nat) (lo m h : Nat) : Prop := (∀ x y, lo ≤ x → x < y → y < m → keyF A[x]! ≤ keyF A[y]!) ∧ (∀ x y, m ≤ x → x < y → y < h → keyF A[x]! ≤ keyF A[y]!)

theorem take_set {B : Array Nat} {k : Nat} (x : Nat) (hk : k < B.size) : (B.setIfInBounds k x).toList.take (k + 1) = B.toList.take k ++ [x] := by
  rw [Array.toList_setIfInBounds, List.take_succ_eq_append_getElem (by simpa using hk)]
  rw [List.take_set_of_le (Nat.le_refl _)]
  simp

theorem take_at {A : Array Nat} {i : Nat} (hi : i < A.size) : A.toList.take (i + 1) = A.toList.take i ++ [A[i]!] := by
  rw [List.take_succ_eq_append_getElem (by simpa using hi), getElem!_pos _ i hi]; rfl

theorem drop_at {A : Array Nat} {m j : Nat} (hm : m ≤ j) (hj : j < A.size) : (A.toList.drop m).take (j + 1 - m) = (A.toList.drop m).take (j - m) ++ [A[j]!] := by
  rw [show j + 1 - m = (j - m) + 1 by omega, List.take_succ_eq_append_getElem (by simp; omega), getElem!_pos _ j hj]
  congr 2
  simp [show m + (j - m) = j by omega]

theorem mrg_start {A B : Array Nat} {V lo m h : Nat} (hm : Mid A B V lo) : Mrg A B V lo m h lo m lo := by
  refine ⟨by rw [Nat.sub_self]; simpa using hm.1, hm.2, fun x y h1 h2 h3 => ?_, fun x y h1 h2 => ?_, fun x y h1 h2 => ?_⟩ <;> omega

theorem blk_set {V L : Nat} {B : Array Nat} (h : Blk V L B) {k x : Nat} (hk : k < B.size) (hL : L ≤ k) : Blk V L (B.setIfInBounds k x) := by
  intro i j hij hj he
  rw [getElem!_set hk, getElem!_set hk, if_neg (by omega), if_neg (by omega)]
  exact h i j hij hj he

theorem mrg_j {A B : Array Nat} {V lo m h i j k : Nat} (H : Mrg A B V lo m h i j k) (hh : Halves A lo m h) (hk : k < B.size) (hlo : lo ≤ k) (hmj : m ≤ j) (hjh : j < h) (hhA : h ≤ A.size)
    (hlt : ∀ y, i ≤ y → y < m → keyF A[j]! ≤ keyF A[y]!) : Mrg A (B.setIfInBounds k A[j]!) V lo m h i (j + 1) (k + 1) := by
  obtain ⟨h1, h2, h3, h4, h5⟩ := H
  refine ⟨?_, blk_set h2 hk hlo, fun x y a b c => ?_, fun x y a b c d => ?_, fun x y a b c d => ?_⟩
  · rw [take_set _ hk, drop_at hmj (by omega), ← List.append_assoc]
    exact h1.append_right _
  · rw [getElem!_set hk, getElem!_set hk, if_neg (by omega)]
    by_cases e : k = y
    · rw [if_pos e]; exact h5 x j a (by omega) (Nat.le_refl _) hjh
    · rw [if_neg e]; exact h3 x y a b (by omega)
  · rw [getElem!_set hk]
    by_cases e : k = x
    · rw [if_pos e]; exact hlt y c d
    · rw [if_neg e]; exact h4 x y a (by omega) c d
  · rw [getElem!_set hk]
    by_cases e : k = x
    · rw [if_pos e]; exact hh.2 j y hmj (by omega) d
    · rw [if_neg e]; exact h5 x y a (by omega) (by omega) d

theorem mrg_i {A B : Array Nat} {V lo m h i j k : Nat} (H : Mrg A B V lo m h i j k) (hh : Halves A lo m h) (hk : k < B.size) (hlo : lo ≤ k) (hli : lo ≤ i) (him : i < m) (hmA : m ≤ A.size)
    (hle : ∀ y, j ≤ y → y < h → keyF A[i]! ≤ keyF A[y]!) : Mrg A (B.setIfInBounds k A[i]!) V lo m h (i + 1) j (k + 1) := by
  obtain ⟨h1, h2, h3, h4, h5⟩ := H
  refine ⟨?_, blk_set h2 hk hlo, fun x y a b c => ?_, fun x y a b c d => ?_, fun x y a b c d => ?_⟩
  · rw [take_set _ hk, take_at (by omega), List.append_assoc]
    refine (h1.append_right _).trans ?_
    rw [List.append_assoc]
    exact (List.perm_append_comm).append_left _
  · rw [getElem!_set hk, getElem!_set hk, if_neg (by omega)]
    by_cases e : k = y
    · rw [if_pos e]; exact h4 x i a (by omega) (Nat.le_refl _) him
    · rw [if_neg e]; exact h3 x y a b (by omega)
  · rw [getElem!_set hk]
    by_cases e : k = x
    · rw [if_pos e]; exact hh.1 i y hli (by omega) d
    · rw [if_neg e]; exact h4 x y a (by omega) (by omega) d
  · rw [getElem!_set hk]
    by_cases e : k = x
    · rw [if_pos e]; exact hle y c d
    · rw [if_neg e]; exact h5 x y a (by omega) c d

/-- Both halves are used up. -/
theorem mrg_end {A B : Array Nat} {V lo m h k : Nat} (H : Mrg A B V lo m h m h k) (hk : k = h) (hmh : m ≤ h) (q : Nat) (hq : lo = q * V) (hV : 0 < V) (hhV : h ≤ lo + V) : Mid A B V h := by
  obtain ⟨h1, h2, h3, _, _⟩ := H
  subst hk
  refine ⟨?_, fun i j hij hj he => ?_⟩
  · have e : A.toList.take m ++ (A.toList.drop m).take (k - m) = A.toList.take k := by
      rw [show k = m + (k - m) by omega, List.take_add, show m + (k - m) - m = k - m by omega]
    rwa [e] at h1
  · by_cases hi : lo ≤ i
    · exact h3 i j hi hij hj
    · by_cases hj2 : j < lo
      · exact h2 i j hij hj2 he
      · exfalso
        have a1 : i / V < q := by rw [Nat.div_lt_iff_lt_mul hV]; omega
        have a2 : q ≤ j / V := by rw [Nat.le_div_iff_mul_le hV]; omega
        omega

/-- The halves of a block-sorted row. -/
theorem halves_of {A : Array Nat} {W n lo m h q : Nat} (hB : Blk W n A) (hW : 0 < W) (hq : lo = q * (2 * W)) (hm : m ≤ lo + W) (hm2 : lo + W ≤ m ∨ h ≤ m) (hh : h ≤ lo + 2 * W) (hn : h ≤ n) (hmn : m ≤ n) : Halves A lo m h := by
  refine ⟨fun x y a b c => hB x y b (by omega) ?_, fun x y a b c => hB x y b (by omega) ?_⟩
  · have e : lo = (2 * q) * W := by rw [hq, Nat.mul_comm 2 q, Nat.mul_assoc]
    have t1 : x / W = 2 * q := by rw [Nat.div_eq_iff hW]; omega
    have t2 : y / W = 2 * q := by rw [Nat.div_eq_iff hW]; omega
    rw [t1, t2]
  · have e : lo + W = (2 * q + 1) * W := by rw [hq, Nat.add_mul, Nat.mul_comm 2 q, Nat.mul_assoc]; omega
    have t1 : x / W = 2 * q + 1 := by rw [Nat.div_eq_iff hW]; omega
    have t2 : y / W = 2 * q + 1 := by rw [Nat.div_eq_iff hW]; omega
    rw [t1, t2]

theorem blk_one (n : Nat) (A : Array Nat) : Blk 1 n A := fun i j hij _ he => by simp at he; omega

theorem mid_zero (A B : Array Nat) (V : Nat) : Mid A B V 0 := ⟨by simp, fun i j _ h => absurd h (Nat.not_lt_zero _)⟩

theorem mid_all {d A B : Array Nat} {V n : Nat} (hA : A.toList.Perm d.toList) (h : Mid A B V n) (hsA : A.size = n) (hsB : B.size = n) : B.toList.Perm d.toList := by
  have h1 := h.1
  rw [List.take_of_length_le (by simp; omega), List.take_of_length_le (by simp; omega)] at h1
  exact h1.trans hA

theorem blk_srt {d A : Array Nat} {W n : Nat} (hA : A.toList.Perm d.toList) (hB : Blk W n A) (hn : n ≤ W) (hs : A.size = n) (hd : d.size = n) : Srt d A := by
  refine ⟨by omega, hA, ?_⟩
  rw [List.pairwise_map, List.pairwise_iff_getElem]
  intro i j hi hj hij
  have hi' : i < A.size := by simpa using hi
  have hj' : j < A.size := by simpa using hj
  have := hB i j hij (by omega) (by rw [Nat.div_eq_of_lt (by omega), Nat.div_eq_of_lt (by omega)])
  rw [getElem!_pos _ i hi', getElem!_pos _ j hj'] at this
  simpa using this

end Go.Proofs.Qxb6605729a
