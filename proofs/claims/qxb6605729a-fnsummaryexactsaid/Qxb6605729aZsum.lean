import Derived.Test.Qxb6605729aPlain
namespace Go.Proofs.Qxb6605729a
open Go.RowKit

theorem sortC : SortC := by
  intro blk off cap d w hH hblk hsz
  refine (Try.slices_Sort blk off cap d w hH hblk hsz).mono ?_
  rintro e w' ⟨rfl, n, os, rfl⟩
  refine ⟨rfl, ?_, ?_, ?_⟩
  · refine Go.Sort.holds_grow _ _ _ _ _ _ (by simpa using hblk) ?_
    exact Go.Sort.holds_putRow _ _ _ _ d _ (Go.Sort.holds_ahead _ _ _ _ _ _ hH) (srt_sort d).1
  · exact below_grow (below_putRow (below_ahead (Below.refl _ _) n) (Nat.le_refl _) _) (by rw [Go.Sort.size_putRow]; exact Nat.le_of_lt hblk) os
  · rw [Go.Sort.size_grow, Go.Sort.size_putRow]; show blk < w.heap.size + _; omega

/-- What summary leaves: s is d sorted. -/
def SumPost (blk off n : Nat) (d : Array Nat) (w : World) (e : Ending) (w' : World) : Prop :=
  ∃ (s : Array Nat) (m : Nat), Srt d s ∧ e = .returned (.tuple #[.float .f64 m, .float .f64 s[0]!, .float .f64 s[n - 1]!]) ∧ keyF m = medK s ∧
    Go.Sort.Holds encF w' blk off s ∧ Below blk w w' ∧ blk < w'.heap.size

theorem sum_any (blk off cap n : Nat) (d : Array Nat) (hd : d.size = n) (w : World) (hH : Go.Sort.Holds encF w blk off d) (hblk : blk < w.heap.size) (hn : n ≤ 131072) (h0 : 0 < n) :
    Calls Try.prog 13 #[.slice (some ⟨blk, off, none⟩) n cap] w (SumPost blk off n d w) := by
  have hs := srt_sort d
  rcases Nat.mod_two_eq_zero_or_one n with h | h
  · refine (sum_even sortC blk off cap n d hd (by rw [hs.1, hd]) w hH hblk hn h0 h).mono ?_
    rintro e w' ⟨m, h1, h2, h3, h4, h5⟩
    exact ⟨_, m, hs, h1, h2, h3, h4, h5⟩
  · refine (sum_odd sortC blk off cap n d hd (by rw [hs.1, hd]) w hH hblk hn h).mono ?_
    rintro e w' ⟨m, h1, h2, h3, h4, h5⟩
    exact ⟨_, m, hs, h1, h2, h3, h4, h5⟩

set_option maxHeartbeats 400000 in
theorem zsum_any (blk off cap n : Nat) (d : Array Nat) (hd : d.size = n) (w : World) (hH : Go.Sort.Holds encF w blk off d) (hblk : blk < w.heap.size) (hn : n ≤ 131072) (h0 : 0 < n) :
    Calls Try.prog 7 #[.slice (some ⟨blk, off, none⟩) n cap] w (SumPost blk off n d w) := by
  have hC := sum_any blk off cap n d hd w hH hblk hn h0
  clear hH
  go_enter Try.func7, Try.ntmps7
  go_wp2_with fail
  refine hC.mono ?_
  clear hC
  rintro e w1 ⟨s, m, h1, rfl, h2, h3, h4, h5⟩
  have H1 : Hid (Srt d s) := h1
  have H2 : Hid (keyF m = medK s) := h2
  have H3 : Hid (Go.Sort.Holds encF w1 blk off s) := h3
  have H4 : Hid (Below blk w w1) := h4
  clear h1 h2 h3 h4
  go_wp2
  go_ret3
  exact ⟨s, m, H1.out, rfl, H2.out, H3.out, H4.out, h5⟩

/-- The same with its three numbers under names of their own, what is known of them hidden from the walk. -/
theorem zsum_named (blk off cap n : Nat) (d : Array Nat) (hd : d.size = n) (w : World) (hH : Go.Sort.Holds encF w blk off d) (hblk : blk < w.heap.size) (hn : n ≤ 131072) (h0 : 0 < n) :
    Calls Try.prog 7 #[.slice (some ⟨blk, off, none⟩) n cap] w fun e w' => ∃ (m lo hi : Nat) (s : Array Nat), e = .returned (.tuple #[.float .f64 m, .float .f64 lo, .float .f64 hi]) ∧
      Hid (Srt d s ∧ lo = s[0]! ∧ hi = s[n - 1]! ∧ keyF m = medK s ∧ Go.Sort.Holds encF w' blk off s ∧ Below blk w w') ∧ blk < w'.heap.size := by
  refine (zsum_any blk off cap n d hd w hH hblk hn h0).mono ?_
  rintro e w' ⟨s, m, h1, h2, h3, h4, h5, h6⟩
  exact ⟨m, _, _, s, h2, ⟨h1, rfl, rfl, h3, h4, h5⟩, h6⟩

end Go.Proofs.Qxb6605729a
