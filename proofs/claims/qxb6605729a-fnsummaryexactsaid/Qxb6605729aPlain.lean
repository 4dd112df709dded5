import Derived.Test.Qxb6605729aArith
import Derived.Test.Qxb6605729aSort14
import Derived.Test.Qxb6605729aSum
import Derived.Test.Qxb6605729aMinMax
namespace Go.Proofs.Qxb6605729a
open Go.RowKit

/-! ### Sorted rows, by their keys -/
/-- s is d sorted. -/
def Srt (d s : Array Nat) : Prop := s.size = d.size ∧ s.toList.Perm d.toList ∧ (s.toList.map keyF).Pairwise (· ≤ ·)

theorem srt_sort (d : Array Nat) : Srt d (Go.Sort.sort ltF d) := by
  obtain ⟨⟨h1, _, h3⟩, h4⟩ := sorted_F d
  refine ⟨h1, ?_, ?_⟩
  · have e1 : (Go.Sort.sort ltF d).extract 0 d.size = Go.Sort.sort ltF d := by rw [← h1]; simp
    have e2 : d.extract 0 d.size = d := by simp
    rwa [e1, e2] at h3
  · rw [List.pairwise_map, List.pairwise_iff_getElem]
    intro i j hi hj hij
    have hi' : i < (Go.Sort.sort ltF d).size := by simpa using hi
    have hj' : j < (Go.Sort.sort ltF d).size := by simpa using hj
    have h := h4 i j (Nat.zero_le _) hij (by omega)
    rw [ltF_eq, getElem!_pos _ i hi', getElem!_pos _ j hj'] at h
    simp at h
    simpa using h

theorem keys_unique {l m : List Int} (h : l.Perm m) (hl : l.Pairwise (· ≤ ·)) (hm : m.Pairwise (· ≤ ·)) : l = m :=
  List.Perm.eq_of_pairwise (le := (· ≤ ·)) (fun _ _ _ _ h1 h2 => Int.le_antisymm h1 h2) hl hm h

theorem keys_at {s t : Array Nat} (h : s.toList.map keyF = t.toList.map keyF) (i : Nat) : keyF s[i]! = keyF t[i]! := by
  have hs : s.size = t.size := by simpa using congrArg List.length h
  by_cases hi : i < s.size
  · have h2 := congrArg (fun l => l[i]?) h
    simp [hi, hs ▸ hi] at h2
    rwa [getElem!_pos _ i hi, getElem!_pos _ i (hs ▸ hi)]
  · rw [getElem!_neg _ i hi, getElem!_neg _ i (hs ▸ hi)]

/-- Two sorted forms of one row agree by their keys. -/
theorem srt_keys {d s t : Array Nat} (hs : Srt d s) (ht : Srt d t) (i : Nat) : keyF s[i]! = keyF t[i]! :=
  keys_at (keys_unique ((hs.2.1.trans ht.2.1.symm).map keyF) hs.2.2 ht.2.2) i

theorem srt_mono {d s : Array Nat} (h : Srt d s) {i j : Nat} (hij : i ≤ j) (hj : j < s.size) : keyF s[i]! ≤ keyF s[j]! := by
  rcases Nat.lt_or_eq_of_le hij with hlt | rfl
  · have h2 := h.2.2
    rw [List.pairwise_iff_getElem] at h2
    have := h2 i j (by simp; omega) (by simp; omega) hlt
    rw [getElem!_pos _ i (by omega), getElem!_pos _ j hj]
    simpa using this
  · exact Int.le_refl _

theorem srt_mem {d s : Array Nat} (h : Srt d s) {i : Nat} (hi : i < s.size) : ∃ j, j < d.size ∧ s[i]! = d[j]! := by
  have hm : s[i] ∈ s.toList := by simp
  have hm2 := h.2.1.mem_iff.1 hm
  obtain ⟨j, hj, e⟩ := List.getElem_of_mem hm2
  have hj' : j < d.size := by simpa using hj
  exact ⟨j, hj', by rw [getElem!_pos _ i hi, getElem!_pos _ j hj', ← e]; simp⟩

theorem srt_mem' {d s : Array Nat} (h : Srt d s) {j : Nat} (hj : j < d.size) : ∃ i, i < s.size ∧ d[j]! = s[i]! := by
  have hm : d[j] ∈ d.toList := by simp
  have hm2 := h.2.1.mem_iff.2 hm
  obtain ⟨i, hi, e⟩ := List.getElem_of_mem hm2
  have hi' : i < s.size := by simpa using hi
  exact ⟨i, hi', by rw [getElem!_pos _ j hj, getElem!_pos _ i hi', ← e]; simp⟩

/-- The least and the greatest are the ends of the sorted row. -/
theorem lohi_ends {d s : Array Nat} (h : Srt d s) (h0 : 0 < d.size) {lo hi : Nat} (hl : LoHi d d.size lo hi) : keyF lo = keyF s[0]! ∧ keyF hi = keyF s[d.size - 1]! := by
  obtain ⟨⟨j1, a1, b1⟩, ⟨j2, a2, b2⟩, hall⟩ := hl
  have hs := h.1
  obtain ⟨i1, c1, e1⟩ := srt_mem' h a1
  obtain ⟨i2, c2, e2⟩ := srt_mem' h a2
  obtain ⟨k1, f1, g1⟩ := srt_mem h (i := 0) (by omega)
  obtain ⟨k2, f2, g2⟩ := srt_mem h (i := d.size - 1) (by omega)
  have m1 := srt_mono h (Nat.zero_le i1) c1
  have m2 := srt_mono h (i := i2) (j := d.size - 1) (by omega) (by omega)
  have n1 := hall k1 f1
  have n2 := hall k2 f2
  rw [← g1] at n1; rw [← g2] at n2; rw [e1] at b1; rw [e2] at b2
  constructor <;> omega

/-! ### The negated row -/
def negA (d : Array Nat) : Array Nat := d.map (Op.negFloat .f64)

def NoNaN (d : Array Nat) : Prop := ∀ j, j < d.size → keyF d[j]! ≠ -9223372036854775808

theorem srt_nonan {d s : Array Nat} (h : Srt d s) (hn : NoNaN d) {i : Nat} (hi : i < s.size) : keyF s[i]! ≠ -9223372036854775808 := by
  obtain ⟨j, hj, e⟩ := srt_mem h hi; rw [e]; exact hn j hj

theorem nonan_list {d : Array Nat} (hn : NoNaN d) : ∀ x ∈ d.toList, keyF x ≠ -9223372036854775808 := by
  intro x hx
  obtain ⟨j, hj, e⟩ := List.getElem_of_mem hx
  have hj' : j < d.size := by simpa using hj
  have := hn j hj'
  rw [getElem!_pos _ j hj'] at this
  rw [← e]; simpa using this

theorem key_neg' {x : Nat} (h : keyF x ≠ -9223372036854775808) : keyF (Op.negFloat .f64 x) = - keyF x := by
  rw [key_neg]; unfold negK; rw [if_neg h]

/-- Sorting the negated row gives the negated keys, the other way round. -/
theorem srt_neg {d s t : Array Nat} (hs : Srt d s) (ht : Srt (negA d) t) (hn : NoNaN d) {i : Nat} (hi : i < d.size) : keyF t[i]! = - keyF s[d.size - 1 - i]! := by
  have hts : t.size = d.size := by rw [ht.1]; simp [negA]
  have hss := hs.1
  have key : t.toList.map keyF = ((s.toList.map keyF).map (fun k => -k)).reverse := by
    refine keys_unique ?_ ht.2.2 ?_
    · have p1 : (t.toList.map keyF).Perm ((d.toList.map keyF).map fun k => -k) := by
        have := ht.2.1.map keyF
        have e : (negA d).toList.map keyF = (d.toList.map keyF).map fun k => -k := by
          unfold negA
          rw [Array.toList_map, List.map_map, List.map_map]
          exact List.map_congr_left fun x hx => key_neg' (nonan_list hn x hx)
        rwa [e] at this
      exact p1.trans ((((hs.2.1.symm.map keyF).map fun k => -k)).trans (List.reverse_perm _).symm)
    · rw [List.pairwise_reverse, List.pairwise_map]
      have hp := hs.2.2
      rw [List.pairwise_iff_getElem] at hp ⊢
      intro i j hi hj hij
      have := hp i j hi hj hij
      omega
  have h2 := congrArg (fun l => l[i]?) key
  have hi2 : i < (s.toList.map keyF |>.map fun k => -k).length := by simp; omega
  simp only [List.getElem?_reverse hi2] at h2
  have hj : d.size - 1 - i < s.size := by omega
  have hit : i < t.size := by omega
  have e3 : (List.map (fun k => -k) (List.map keyF s.toList)).length - 1 - i = d.size - 1 - i := by simp; omega
  rw [e3] at h2
  simp [hit, hj] at h2
  rw [getElem!_pos _ i hit, getElem!_pos s (d.size - 1 - i) hj]
  exact h2

theorem med_neg {d s t : Array Nat} (hs : Srt d s) (ht : Srt (negA d) t) (hn : NoNaN d) (h0 : 0 < d.size) : medK t = negK (medK s) := by
  have hts : t.size = d.size := by rw [ht.1]; simp [negA]
  have hss := hs.1
  unfold medK
  rw [hts, hss]
  by_cases he : d.size % 2 = 0
  · rw [if_pos he, if_pos he, ← hk_neg]
    have n1 := srt_nonan hs hn (i := d.size / 2) (by omega)
    have n2 := srt_nonan hs hn (i := d.size / 2 - 1) (by omega)
    refine hk_congr ?_ ?_
    · rw [srt_neg hs ht hn (by omega), key_neg' n1]; congr 3; omega
    · rw [srt_neg hs ht hn (by omega), key_neg' n2]; congr 3; omega
  · rw [if_neg he, if_neg he, srt_neg hs ht hn (by omega)]
    have n1 := srt_nonan hs hn (i := d.size / 2) (by omega)
    unfold negK
    rw [if_neg n1]
    congr 3; omega

end Go.Proofs.Qxb6605729a
