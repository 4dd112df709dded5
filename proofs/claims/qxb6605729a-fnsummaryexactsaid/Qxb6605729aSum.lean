import Derived.Test.Qxb6605729aSmall
import Derived.CellFam
import Derived.BigGuard
import Derived.BigCall
import Derived.RegionTactic
import Derived.BigRegion
namespace Go.Proofs.Qxb6605729a
open Go.RowKit

/-- The key of the median of a sorted row. -/
def medK (s : Array Nat) : Int := if s.size % 2 = 0 then hk s[s.size / 2 - 1]! s[s.size / 2]! else keyF s[s.size / 2]!

theorem ret3 {a b c a' b' c' : Nat} (h1 : a = a') (h2 : b = b') (h3 : c = c') : Ending.returned (.tuple #[.float .f64 a, .float .f64 b, .float .f64 c]) = .returned (.tuple #[.float .f64 a', .float .f64 b', .float .f64 c']) := by rw [h1, h2, h3]

def SortC : Prop := ∀ (blk off cap : Nat) (d : Array Nat) (w : World), Go.Sort.Holds encF w blk off d → blk < w.heap.size → d.size < 4611686018427387904 →
    Calls Try.prog 17 #[.slice (some ⟨blk, off, none⟩) d.size cap] w fun e w' => e = .returned (.tuple #[]) ∧ Go.Sort.Holds encF w' blk off (Go.Sort.sort ltF d) ∧ Below blk w w' ∧ blk < w'.heap.size

set_option maxHeartbeats 400000 in
theorem sum_odd (hS : SortC) (blk off cap n : Nat) (d : Array Nat) (hd : d.size = n) (hsd : (Go.Sort.sort ltF d).size = n) (w : World) (hH : Go.Sort.Holds encF w blk off d) (hblk : blk < w.heap.size) (hn : n ≤ 131072) (hodd : n % 2 = 1) :
    Calls Try.prog 13 #[.slice (some ⟨blk, off, none⟩) n cap] w fun e w' => ∃ m, e = .returned (.tuple #[.float .f64 m, .float .f64 (Go.Sort.sort ltF d)[0]!, .float .f64 (Go.Sort.sort ltF d)[n - 1]!]) ∧ keyF m = medK (Go.Sort.sort ltF d) ∧
      Go.Sort.Holds encF w' blk off (Go.Sort.sort ltF d) ∧ Below blk w w' ∧ blk < w'.heap.size := by
  have hC := hS blk off cap d w hH hblk (by omega)
  rw [hd] at hC
  obtain ⟨s, hs⟩ : ∃ s, s = Go.Sort.sort ltF d := ⟨_, rfl⟩
  rw [← hs] at hC hsd ⊢
  have ho2 : (n : Int) % 2 = 1 := by omega
  have ho : ((n : Int) % 2 == 0) = false := by rw [beq_eq_false_iff_ne]; omega
  have h0n : 0 < n := by omega
  clear hS hH hs
  go_enter Try.func13, Try.ntmps13
  go_wp2_with fail
  refine hC.mono ?_
  clear hC
  rintro e w1 ⟨rfl, hH1, hB1, hz1⟩
  obtain ⟨G, hG⟩ : ∃ G : Nat → Nat, ∀ t, G t = s[t]! := ⟨fun t => s[t]!, fun _ => rfl⟩
  have hcw : ∀ t, t < n → w1.cell? ⟨blk, off + t, none⟩ = some (.float .f64 (G t)) := fun t ht => by rw [hG]; exact (hH1 t (by omega)).1
  have HH1 : Hid (Go.Sort.Holds encF w1 blk off s) := hH1
  have HG : Hid (∀ t, G t = s[t]!) := hG
  have HB1 : Hid (Below blk w w1) := hB1
  have HS : Hid (s.size = n) := hsd
  clear hH1 hG hB1 hsd hd
  go_wp2
  go_quiet (fail)
  go_wp2
  go_ret3
  refine ⟨G (n / 2), ?_, ?_, HH1.out, below_drewN HB1.out _, hz1⟩
  · exact ret3 rfl (HG.out _) (HG.out _)
  · unfold medK; rw [HS.out, if_neg (by omega), HG.out]

/-- The half sum, where it is a number. -/
theorem hk_some {x y r q : Nat} (h1 : Ieee.double.add x y = some r) (h2 : Ieee.double.div r twoF = some q) : keyF q = hk x y := by
  unfold hk halfSum; rw [h1]; show _ = kk (Ieee.double.div r twoF); rw [h2]; rfl
theorem hk_none1 {x y : Nat} (h1 : Ieee.double.add x y = none) : -9223372036854775808 = hk x y := by
  unfold hk halfSum; rw [h1]; rfl
theorem hk_none2 {x y r : Nat} (h1 : Ieee.double.add x y = some r) (h2 : Ieee.double.div r twoF = none) : -9223372036854775808 = hk x y := by
  unfold hk halfSum; rw [h1]; show _ = kk (Ieee.double.div r twoF); rw [h2]; rfl
/-- A NaN divided gives none. -/
theorem div_nan {x : Nat} (h : keyF x = -9223372036854775808) (y : Nat) : Ieee.double.div x y = none := by
  obtain ⟨s, f, e⟩ := read_nan h
  unfold Ieee.Format.div; rw [e]; rfl

set_option maxHeartbeats 400000 in
theorem sum_even (hS : SortC) (blk off cap n : Nat) (d : Array Nat) (hd : d.size = n) (hsd : (Go.Sort.sort ltF d).size = n) (w : World) (hH : Go.Sort.Holds encF w blk off d) (hblk : blk < w.heap.size) (hn : n ≤ 131072) (h0n : 0 < n) (heven : n % 2 = 0) :
    Calls Try.prog 13 #[.slice (some ⟨blk, off, none⟩) n cap] w fun e w' => ∃ m, e = .returned (.tuple #[.float .f64 m, .float .f64 (Go.Sort.sort ltF d)[0]!, .float .f64 (Go.Sort.sort ltF d)[n - 1]!]) ∧ keyF m = medK (Go.Sort.sort ltF d) ∧
      Go.Sort.Holds encF w' blk off (Go.Sort.sort ltF d) ∧ Below blk w w' ∧ blk < w'.heap.size := by
  have hC := hS blk off cap d w hH hblk (by omega)
  rw [hd] at hC
  obtain ⟨s, hs⟩ : ∃ s, s = Go.Sort.sort ltF d := ⟨_, rfl⟩
  rw [← hs] at hC hsd ⊢
  have ho2 : (n : Int) % 2 = 0 := by omega
  have ho : ((n : Int) % 2 == 0) = true := by rw [ho2]; rfl
  clear hS hH hs
  obtain ⟨G, hG⟩ : ∃ G : Nat → Nat, ∀ t, G t = s[t]! := ⟨fun t => s[t]!, fun _ => rfl⟩
  have HM : Hid (medK s = hk (G (n / 2 - 1)) (G (n / 2))) := by show medK s = _; unfold medK; rw [hsd, if_pos (by omega), hG, hG]
  have h2n : 2 ≤ n := by omega
  have hi1 : (0 : Int) ≤ (n : Int) / 2 - 1 := by omega
  have hi2 : (n : Int) / 2 - 1 < (n : Int) := by omega
  have hi3 : (n : Int) / 2 < (n : Int) := by omega
  have HG : Hid (∀ t, G t = s[t]!) := hG
  have HS : Hid (s.size = n) := hsd
  clear hd hG hsd
  cases hadd : Ieee.double.add (G (n / 2 - 1)) (G (n / 2)) with
  | some r =>
    have ladd := fun w => run_float_arith (P := Try.prog) w .add 25 .f64 (G (n / 2 - 1)) (G (n / 2)) r hadd
    cases hdiv : Ieee.double.div r twoF with
    | some q =>
      have ldiv := fun w => run_float_arith (P := Try.prog) w .quo 25 .f64 r 4611686018427387904 q hdiv
      have HQ : Hid (keyF q = hk (G (n / 2 - 1)) (G (n / 2))) := hk_some hadd hdiv
      clear hadd hdiv
      go_enter Try.func13, Try.ntmps13
      go_wp2_with fail
      refine hC.mono ?_
      clear hC
      rintro e w1 ⟨rfl, hH1, hB1, hz1⟩
      have hcw : ∀ t, t < n → w1.cell? ⟨blk, off + t, none⟩ = some (.float .f64 (G t)) := fun t ht => by rw [HG.out]; exact (hH1 t (by have := HS.out; omega)).1
      have HH1 : Hid (Go.Sort.Holds encF w1 blk off s) := hH1
      have HB1 : Hid (Below blk w w1) := hB1
      clear hH1 hB1
      go_wp2
      go_quiet (fail)
      go_wp2
      go_quiet (fail)
      go_wp2
      go_ret3
      refine ⟨q, ?_, ?_, HH1.out, below_drewN (below_drewN HB1.out _) _, hz1⟩
      · exact ret3 rfl (HG.out _) (HG.out _)
      · rw [HM.out]; exact HQ.out
    | none =>
      have ldiv := fun w => run_float_nan (P := Try.prog) .quo (Or.inr rfl) 25 r 4611686018427387904 hdiv w
      have HQ : Hid (-9223372036854775808 = hk (G (n / 2 - 1)) (G (n / 2))) := hk_none2 hadd hdiv
      clear hadd hdiv
      go_enter Try.func13, Try.ntmps13
      go_wp2_with fail
      refine hC.mono ?_
      clear hC
      rintro e w1 ⟨rfl, hH1, hB1, hz1⟩
      have hcw : ∀ t, t < n → w1.cell? ⟨blk, off + t, none⟩ = some (.float .f64 (G t)) := fun t ht => by rw [HG.out]; exact (hH1 t (by have := HS.out; omega)).1
      have HH1 : Hid (Go.Sort.Holds encF w1 blk off s) := hH1
      have HB1 : Hid (Below blk w w1) := hB1
      clear hH1 hB1
      go_wp2
      go_region
      all_goals go_wp2
      go_quiet (fail)
      go_wp2
      go_ret3
      refine ⟨_, ret3 rfl (HG.out _) (HG.out _), ?_, HH1.out, ?_, hz1⟩
      · rw [key_nanDraw, HM.out]; exact HQ.out
      · repeat (first | exact HB1.out | apply below_drewN | apply Below.drew)
  | none =>
    have ladd := fun w => run_float_nan (P := Try.prog) .add (Or.inl rfl) 25 (G (n / 2 - 1)) (G (n / 2)) hadd w
    have ldiv := fun (w w0 : World) => run_float_nan (P := Try.prog) .quo (Or.inr rfl) 25 (nanDraw w0 (G (n / 2 - 1)) (G (n / 2))) 4611686018427387904 (div_nan (key_nanDraw _ _ _) _) w
    have HQ : Hid (-9223372036854775808 = hk (G (n / 2 - 1)) (G (n / 2))) := hk_none1 hadd
    clear hadd
    go_enter Try.func13, Try.ntmps13
    go_wp2_with fail
    refine hC.mono ?_
    clear hC
    rintro e w1 ⟨rfl, hH1, hB1, hz1⟩
    have hcw : ∀ t, t < n → w1.cell? ⟨blk, off + t, none⟩ = some (.float .f64 (G t)) := fun t ht => by rw [HG.out]; exact (hH1 t (by have := HS.out; omega)).1
    have HH1 : Hid (Go.Sort.Holds encF w1 blk off s) := hH1
    have HB1 : Hid (Below blk w w1) := hB1
    clear hH1 hB1
    go_wp2
    go_region
    all_goals go_wp2
    go_quiet (fail)
    go_wp2
    go_ret3
    refine ⟨_, ret3 rfl (HG.out _) (HG.out _), ?_, HH1.out, ?_, hz1⟩
    · rw [key_nanDraw, HM.out]; exact HQ.out
    · repeat (first | exact HB1.out | apply below_drewN | apply Below.drew)

end Go.Proofs.Qxb6605729a
