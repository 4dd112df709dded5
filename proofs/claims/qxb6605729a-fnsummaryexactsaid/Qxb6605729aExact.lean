import Derived.Test.Qxb6605729aZsum
import Derived.Test.Qxb6605729aMerge
import Derived.Test.Qxb6605729aNegZ
import Derived.Deep.Cut
import Derived.Deep.CutRange
namespace Go.Proofs.Qxb6605729a
open Go.RowKit
attribute [local go_sem] run_store_float

set_option maxHeartbeats 400000 in
theorem exact_short (a : Option Addr) (n c : Nat) (hl : n ≤ maxLen) (hn : n = 0 ∨ 131072 < n) (w : World) :
    Calls Try.prog 3 #[.slice a n c] w fun e w' => e = .returned (.bool true) ∧ Below w.heap.size w w' := by
  have hl' := hl
  unfold maxLen at hl'
  rcases hn with rfl | hn
  all_goals
    go_enter Try.func3, Try.ntmps3
    go_wp2_with (go_at_call 5; refine (bytes5_any _ _ _ hl _).mono ?_; rintro e w' ⟨⟨r, rfl⟩, rfl⟩)
    all_goals go_ret
    all_goals exact ⟨rfl, Below.refl _ _⟩

/-- THE LAW, no Go in sight. -/
theorem exact_plain {d s A : Array Nat} {m1 m2 l1 h1 lo hi n : Nat} (hd : d.size = n) (h0 : 0 < n) (hs : Srt d s) (hA : Srt d A) (hlh : LoHi d n lo hi)
    (e1 : l1 = s[0]!) (e2 : h1 = s[n - 1]!) (e3 : keyF m1 = medK s) (e4 : keyF m2 = medK A) :
    feqF m1 m2 = true ∧ feqF l1 lo = true ∧ feqF h1 hi = true := by
  subst hd
  obtain ⟨f1, f2⟩ := lohi_ends hs h0 hlh
  have hss := hs.1
  have hAs := hA.1
  have k := fun i => srt_keys hs hA i
  unfold feqF
  refine ⟨decide_eq_true ?_, decide_eq_true (by rw [e1, f1]), decide_eq_true (by rw [e2, f2])⟩
  rw [e3, e4]
  unfold medK
  rw [hss, hAs]
  by_cases h : d.size % 2 = 0
  · rw [if_pos h, if_pos h]; exact hk_congr (k _) (k _)
  · rw [if_neg h, if_neg h]; exact k _

theorem feq_at {d s A : Array Nat} (hs : Srt d s) (hA : Srt d A) (i : Nat) : feqF s[i]! A[i]! = true := decide_eq_true (srt_keys hs hA i)

set_option maxHeartbeats 2000000 in
set_option maxRecDepth 1000000 in
theorem exact_main (b off n c : Nat) (d : Array Nat) (w : World) (hb : b < w.heap.size) (hn : n ≤ 131072) (h0 : 0 < n) (hR : RowF w b off n d) :
    Calls Try.prog 3 #[.slice (some ⟨b, off, none⟩) n c] w fun e w' => e = .returned (.bool true) ∧ Below w.heap.size w w' := by
  obtain ⟨hd, hc⟩ := hR
  have HC : Hid (∀ t, t < n → w.cell? ⟨b, off + t, none⟩ = some (.float .f64 d[t]!)) := hc
  have HD : Hid (d.size = n) := hd
  clear hc hd
  go_enter Try.func3, Try.ntmps3
  go_wp2_with (go_at_call 5; refine (bytes5_any _ _ _ (by unfold maxLen; omega) _).mono ?_; rintro e wx ⟨⟨r, rfl⟩, hwx⟩; replace hwx := hwx.symm; subst hwx)
  · go_ret
    exact ⟨rfl, Below.refl _ _⟩
  -- xs = zzCloneF(xs)
  have hcl := clone_any b off n c d w hb hn ⟨HD.out, HC.out⟩
  refine hcl.mono ?_
  clear hcl HC
  rintro e w1 ⟨g0, hg0, hg0', rfl, hH1, hB1⟩
  have H1 : Hid (Go.Sort.Holds encF w1 g0 0 d) := hH1
  have B1 : Hid (Below w.heap.size w w1) := hB1
  clear hH1 hB1
  -- work := zzCloneF(xs)
  go_wp2_with fail
  have hcl := clone_any g0 0 n n d w1 hg0' hn ⟨HD.out, fun t ht => (H1.out t (by have := HD.out; omega)).1⟩
  refine hcl.mono ?_
  clear hcl
  rintro e w2 ⟨g1, hg1, hg1', rfl, hW2, hB2⟩
  have H2 : Hid (Go.Sort.Holds encF w2 g0 0 d) := holds_below hB2 hg0' H1.out
  have W2 : Hid (Go.Sort.Holds encF w2 g1 0 d) := hW2
  have B2 : Hid (Below w.heap.size w w2) := B1.out.trans (hB2.mono (by have := B1.out.size; omega))
  have z1 := B1.out.size
  clear hW2 hB2 H1 B1
  -- bench.ZZsummary(work)
  go_wp2_with fail
  have hz := zsum_named g1 0 n n d HD.out w2 W2.out hg1' hn h0
  refine hz.mono ?_
  clear hz
  rintro e w3 ⟨m1, l1, h1, s, rfl, hsum, hg3⟩
  have H3 : Hid (Go.Sort.Holds encF w3 g0 0 d) := holds_below hsum.out.2.2.2.2.2 (by omega) H2.out
  have W3 : Hid (Go.Sort.Holds encF w3 g1 0 s) := hsum.out.2.2.2.2.1
  have B3 : Hid (Below w.heap.size w w3) := B2.out.trans (hsum.out.2.2.2.2.2.mono (by omega))
  have S3 : Hid (Srt d s ∧ l1 = s[0]! ∧ h1 = s[n - 1]! ∧ keyF m1 = medK s) := ⟨hsum.out.1, hsum.out.2.1, hsum.out.2.2.1, hsum.out.2.2.2.1⟩
  clear hsum H2 W2 B2
  -- sorted := zzMergeSort(xs)
  go_wp2_with fail
  have hms := merge_any g0 0 n n d w3 (by omega) hn h0 ⟨HD.out, fun t ht => (H3.out t (by have := HD.out; omega)).1⟩
  refine hms.mono ?_
  clear hms
  rintro e w4 ⟨g2, A, rfl, hg2, hg2', hSA, hA4, hB4⟩
  have H4 : Hid (Go.Sort.Holds encF w4 g0 0 d) := holds_below hB4 (by omega) H3.out
  have W4 : Hid (Go.Sort.Holds encF w4 g1 0 s) := holds_below hB4 hg3 W3.out
  have A4 : Hid (Go.Sort.Holds encF w4 g2 0 A) := hA4
  have B4 : Hid (Below w.heap.size w w4) := B3.out.trans (hB4.mono (by have := B3.out.size; omega))
  have SA : Hid (Srt d A) := hSA
  clear hSA hA4 hB4 H3 W3 B3
  -- zzMinMax(xs)
  go_wp2_with fail
  have hmm := minmax_any g0 0 n n d w4 hn h0 ⟨HD.out, fun t ht => (H4.out t (by have := HD.out; omega)).1⟩
  refine hmm.mono ?_
  clear hmm
  rintro e w5 ⟨lo, hi, q5, rfl, hlh, hw5⟩
  subst hw5
  have LH : Hid (LoHi d n lo hi) := hlh
  clear hlh
  obtain ⟨G, hG⟩ : ∃ G : Nat → Nat, ∀ t, G t = A[t]! := ⟨fun t => A[t]!, fun _ => rfl⟩
  have HG : Hid (∀ t, G t = A[t]!) := hG
  have HAS : Hid (A.size = n) := by show A.size = n; rw [SA.out.1, HD.out]
  have hcw : ∀ t, t < n → w4.cell? ⟨g2, t, none⟩ = some (.float .f64 (G t)) := fun t ht => by
    rw [hG]; have := (A4.out t (by have := HAS.out; omega)).1; rwa [Nat.zero_add] at this
  have HCW : Hid (∀ t, t < n → w4.cell? ⟨g2, t, none⟩ = some (.float .f64 (G t))) := hcw
  clear hG
  go_upto_if 43 with fail
  go_cut [11] from 44 to 61 (fun s11 wc => ∃ m q : Nat, s11 = .float .f64 m ∧ keyF m = medK A ∧ wc = w4.drewN q)
  case first =>
    rcases Nat.mod_two_eq_zero_or_one n with hpar | hpar
    · -- even
      have ho2 : (n : Int) % 2 = 0 := by omega
      have ho : ((n : Int) % 2 == 1) = false := by rw [ho2]; rfl
      have h2n : 2 ≤ n := by omega
      have hi1 : (0 : Int) ≤ (n : Int) / 2 - 1 := by omega
      have hi2 : (n : Int) / 2 - 1 < (n : Int) := by omega
      have hi3 : (n : Int) / 2 < (n : Int) := by omega
      have c1 := hcw (n / 2) (by omega)
      have c2 := hcw (n / 2 - 1) (by omega)
      clear hcw
      have HM : Hid (medK A = hk (G (n / 2 - 1)) (G (n / 2))) := by show medK A = _; unfold medK; rw [HAS.out, if_pos (by omega), HG.out, HG.out]
      cases hadd : Ieee.double.add (G (n / 2 - 1)) (G (n / 2)) with
      | some r =>
        have ladd := fun w => run_float_arith (P := Try.prog) w .add 25 .f64 (G (n / 2 - 1)) (G (n / 2)) r hadd
        cases hdiv : Ieee.double.div r twoF with
        | some q =>
          have ldiv := fun w => run_float_arith (P := Try.prog) w .quo 25 .f64 r 4611686018427387904 q hdiv
          have HQ : Hid (keyF q = hk (G (n / 2 - 1)) (G (n / 2))) := hk_some hadd hdiv
          clear hadd hdiv
          go_wp2
          go_quiet (fail)
          go_wp2
          go_meet
          case rel => exact ⟨q, _, rfl, by rw [HM.out]; exact HQ.out, by rw [World.drewN_drewN]⟩
        | none =>
          have ldiv := fun w => run_float_nan (P := Try.prog) .quo (Or.inr rfl) 25 r 4611686018427387904 hdiv w
          have HQ : Hid (-9223372036854775808 = hk (G (n / 2 - 1)) (G (n / 2))) := hk_none2 hadd hdiv
          clear hadd hdiv
          go_wp2
          go_region
          all_goals go_wp2
          go_meet
          case rel => exact ⟨_, _, rfl, by rw [key_nanDraw, HM.out]; exact HQ.out, rfl⟩
      | none =>
        have ladd := fun w => run_float_nan (P := Try.prog) .add (Or.inl rfl) 25 (G (n / 2 - 1)) (G (n / 2)) hadd w
        have ldiv := fun (w w0 : World) => run_float_nan (P := Try.prog) .quo (Or.inr rfl) 25 (nanDraw w0 (G (n / 2 - 1)) (G (n / 2))) 4611686018427387904 (div_nan (key_nanDraw _ _ _) _) w
        have HQ : Hid (-9223372036854775808 = hk (G (n / 2 - 1)) (G (n / 2))) := hk_none1 hadd
        clear hadd
        go_wp2
        go_region
        all_goals go_wp2
        go_meet
        case rel => exact ⟨_, _, rfl, by rw [key_nanDraw, HM.out]; exact HQ.out, rfl⟩
    · -- odd
      have ho2 : (n : Int) % 2 = 1 := by omega
      have ho : ((n : Int) % 2 == 1) = true := by rw [ho2]; rfl
      have hi3 : (n : Int) / 2 < (n : Int) := by omega
      have c1 := hcw (n / 2) (by omega)
      clear hcw
      have HM : Hid (keyF (G (n / 2)) = medK A) := by show _ = medK A; unfold medK; rw [HAS.out, if_neg (by omega), HG.out]
      go_wp2
      go_meet
      case rel => exact ⟨_, _, rfl, HM.out, rfl⟩
  case rest =>
    obtain ⟨m2, q6, rfl, hm2, hwc⟩ := hcut
    subst hwc
    obtain ⟨p1, p2, p3⟩ := exact_plain HD.out h0 S3.out.1 SA.out LH.out S3.out.2.1 S3.out.2.2.1 S3.out.2.2.2 hm2
    clear hm2 hcw
    go_wp2_with (go_at_call 10; refine (feq_any _ _ _).mono ?_; rintro e wx ⟨rfl, hwx⟩; replace hwx := hwx.symm; subst hwx)
    have HS3 : Hid (s.size = n) := by show s.size = n; rw [S3.out.1.1, HD.out]
    clear p1 p2 p3 LH
    go_loopw [12] (fun s12 wr => ∃ k q : Nat, k ≤ n ∧ s12 = .int .i64 k ∧ wr = w4.drewN q) (fun s12 _ => n - (intOf s12).toNat)
    case atStart => exact ⟨0, q6, Nat.zero_le _, rfl, rfl⟩
    case round =>
      obtain ⟨k, q, hk, rfl, hwr⟩ := hrel
      have HW : Hid (wr = w4.drewN q) := hwr
      clear hwr
      by_cases hlt : k < n
      · obtain ⟨xs, hxs⟩ : ∃ x, x = s[k]! := ⟨_, rfl⟩
        obtain ⟨xa, hxa⟩ : ∃ x, x = A[k]! := ⟨_, rfl⟩
        have c1 : wr.cell? ⟨g1, k, none⟩ = some (.float .f64 xs) := by rw [hxs, HW.out, World.cell?_drewN]; have := (W4.out k (by have := HS3.out; omega)).1; rwa [Nat.zero_add] at this
        have c2 : wr.cell? ⟨g2, k, none⟩ = some (.float .f64 xa) := by rw [hxa, HW.out, World.cell?_drewN]; have := (A4.out k (by have := HAS.out; omega)).1; rwa [Nat.zero_add] at this
        have HF : Hid (feqF xs xa = true) := by rw [hxs, hxa]; exact feq_at S3.out.1 SA.out k
        clear hxs hxa
        go_wp2
        go_quiet (first | (go_at_call 10; refine Calls.quiet_of_same (feq_any _ _ _)))
        go_wp2
        · exfalso
          have hx : (!feqF xs xa) = true := by assumption
          rw [HF.out] at hx
          cases hx
        · go_roundw
          case rel => exact ⟨k + 1, _, by omega, by go_num, by rw [HW.out, World.drewN_drewN]⟩
          case measure => simp [intOf]; omega
      · have hwr := HW.out
        subst hwr
        go_wp2_with fail
        refine (negz_any g1 0 n n s (w4.drewN q) hn ⟨HS3.out, fun t ht => (W4.out t (by have := HS3.out; omega)).1⟩).mono ?_
        rintro e wx ⟨rfl, hwx⟩
        replace hwx := hwx.symm
        subst hwx
        go_wp2_with fail
        refine (negz_any g0 0 n n d (w4.drewN q) hn ⟨HD.out, fun t ht => (H4.out t (by have := HD.out; omega)).1⟩).mono ?_
        rintro e wx ⟨rfl, hwx⟩
        replace hwx := hwx.symm
        subst hwx
        have HNZ : Hid (nz s.toList = nz d.toList) := nz_perm S3.out.1.2.1
        go_wp2
        go_ret
        exact ⟨ret_bool (by rw [HNZ.out]; simp), below_drewN B4.out _⟩

end Go.Proofs.Qxb6605729a
