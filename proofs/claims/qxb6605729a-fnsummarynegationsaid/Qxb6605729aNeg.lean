import Derived.Test.Qxb6605729aZsum
namespace Go.Proofs.Qxb6605729a
open Go.RowKit
theorem unary_neg_float (k : FloatKind) (b : Nat) : Op.unary .neg (.float k b) = pure (.float k (Op.negFloat k b)) := rfl
attribute [local go_sem] run_store_float unary_neg_float

theorem is_negA {d dk : Array Nat} {k : Nat} (hd : d.size = k) (hdk : dk.size = k) (h : ∀ j, j < k → dk[j]! = Op.negFloat .f64 d[j]!) : dk = negA d := by
  refine ext! (by unfold negA; rw [Array.size_map]; omega) (fun j hj => ?_)
  rw [h j (by omega)]
  unfold negA
  rw [getElem!_pos (d.map _) j (by rw [Array.size_map]; omega), getElem!_pos d j (by omega)]
  simp

/-- Two floats that are numbers of one key are '==' to Go. -/
theorem go_eq {x y : Nat} (h : keyF x = keyF y) (hn : keyF x ≠ -9223372036854775808) : FloatKind.f64.format.order x y = some .eq := by
  have := eq_eq x y
  rw [decide_eq_true ⟨hn, h⟩] at this
  show Ieee.double.order x y = some .eq
  simpa using this

/-- THE LAW, no Go in sight: s is d sorted, t is d negated and sorted. -/
theorem neg_plain {d s t : Array Nat} {m1 l1 h1 m2 l2 h2 lo hi n : Nat} (hd : d.size = n) (h0 : 0 < n) (hn : NoNaN d) (hs : Srt d s) (ht : Srt (negA d) t) (hlh : LoHi d n lo hi)
    (e1 : l1 = s[0]!) (e2 : h1 = s[n - 1]!) (e3 : keyF m1 = medK s) (e4 : l2 = t[0]!) (e5 : h2 = t[n - 1]!) (e6 : keyF m2 = medK t) :
    FloatKind.f64.format.order l1 lo = some .eq ∧ FloatKind.f64.format.order h1 hi = some .eq ∧ feqF m2 (Op.negFloat .f64 m1) = true ∧
    FloatKind.f64.format.order l2 (Op.negFloat .f64 h1) = some .eq ∧ FloatKind.f64.format.order h2 (Op.negFloat .f64 l1) = some .eq := by
  subst hd
  have hss := hs.1
  obtain ⟨f1, f2⟩ := lohi_ends hs h0 hlh
  have n0 := srt_nonan hs hn (i := 0) (by omega)
  have n1 := srt_nonan hs hn (i := d.size - 1) (by omega)
  have g0 := srt_neg hs ht hn (i := 0) (by omega)
  have g1 := srt_neg hs ht hn (i := d.size - 1) (by omega)
  have b0 : keyF s[0]! ≤ 9218868437227405312 := (key_lo _ (by have := nan_iff s[0]!; omega)).2
  have b1 : keyF s[d.size - 1]! ≤ 9218868437227405312 := (key_lo _ (by have := nan_iff s[d.size - 1]!; omega)).2
  rw [show d.size - 1 - 0 = d.size - 1 by omega] at g0
  rw [show d.size - 1 - (d.size - 1) = 0 by omega] at g1
  subst e1 e2 e4 e5
  refine ⟨go_eq f1.symm n0, go_eq f2.symm n1, ?_, go_eq ?_ ?_, go_eq ?_ ?_⟩
  · unfold feqF; rw [decide_eq_true_iff, key_neg, e3, e6]; exact med_neg hs ht hn h0
  · rw [g0, key_neg' n1]
  · rw [g0]; omega
  · rw [g1, key_neg' n0]
  · rw [g1]; omega

set_option maxHeartbeats 400000 in
theorem neg_short (a : Option Addr) (n c : Nat) (hl : n ≤ maxLen) (hn : n = 0 ∨ 131072 < n) (w : World) :
    Calls Try.prog 4 #[.slice a n c] w fun e w' => e = .returned (.bool true) ∧ Below w.heap.size w w' := by
  have hl' := hl
  unfold maxLen at hl'
  rcases hn with rfl | hn
  all_goals
    go_enter Try.func4, Try.ntmps4
    go_wp2_with (go_at_call 12; refine (bytes12_any _ _ _ hl _).mono ?_; rintro e w' ⟨⟨r, rfl⟩, rfl⟩)
    all_goals go_ret
    all_goals exact ⟨rfl, Below.refl _ _⟩

set_option maxHeartbeats 400000 in
theorem neg_main (b off n c : Nat) (d : Array Nat) (w : World) (hb : b < w.heap.size) (hn : n ≤ 131072) (h0 : 0 < n) (hR : RowF w b off n d) :
    Calls Try.prog 4 #[.slice (some ⟨b, off, none⟩) n c] w fun e w' => e = .returned (.bool true) ∧ Below w.heap.size w w' := by
  obtain ⟨hd, hc⟩ := hR
  have HC : Hid (∀ t, t < n → w.cell? ⟨b, off + t, none⟩ = some (.float .f64 d[t]!)) := hc
  have HD : Hid (d.size = n) := hd
  have hmk := run_make_row' (P := Try.prog) 22 25 (.float .f64 0) 8 Try.underlying22 Try.info25 rfl .i64 .i64 n (by omega) (by omega)
  clear hc hd
  go_enter Try.func4, Try.ntmps4
  go_wp2_with (go_at_call 12; refine (bytes12_any _ _ _ (by unfold maxLen; omega) _).mono ?_; rintro e wx ⟨⟨r, rfl⟩, hwx⟩; replace hwx := hwx.symm; subst hwx)
  · go_ret
    exact ⟨rfl, Below.refl _ _⟩
  go_loopw [3] (fun i wr => ∃ (k q : Nat), k ≤ n ∧ i = .int .i64 k ∧ wr = w.drewN q ∧ ∀ j, j < k → keyF d[j]! ≠ -9223372036854775808) (fun i _ => n - (intOf i).toNat)
  case atStart => exact ⟨0, 0, Nat.zero_le _, rfl, rfl, fun j hj => absurd hj (Nat.not_lt_zero _)⟩
  case round =>
    obtain ⟨k, q, hk, rfl, rfl, hno⟩ := hrel
    have HN : Hid (∀ j, j < k → keyF d[j]! ≠ -9223372036854775808) := hno
    clear hno
    by_cases hlt : k < n
    · obtain ⟨x, hx⟩ : ∃ x, x = d[k]! := ⟨_, rfl⟩
      have c1 : w.cell? ⟨b, off + k, none⟩ = some (.float .f64 x) := by rw [hx]; exact HC.out k hlt
      have HX : Hid (x = d[k]!) := hx
      clear hx
      go_wp2
      go_quiet (fail)
      go_wp2
      · go_ret
        exact ⟨rfl, below_drewN (below_drewN (Below.refl _ _) _) _⟩
      · go_roundw
        case rel =>
          refine ⟨k + 1, _, by omega, by go_num, rfl, fun j hj => ?_⟩
          rcases lt_or hj with hj | rfl
          · exact HN.out j hj
          · rw [← HX.out]; exact t_num ‹_›
        case measure => simp [intOf]; omega
    · obtain rfl : k = n := by omega
      have HNN : Hid (NoNaN d) := fun j hj => HN.out j (by have := HD.out; omega)
      clear HN
      go_wp2_with fail
      have hcl := clone_any b off k c d (w.drewN q) hb hn ⟨HD.out, HC.out⟩
      refine hcl.mono ?_
      clear hcl
      rintro e w1 ⟨g0, hg0, hg0', rfl, hH0, hB0⟩
      have H0 : Hid (Go.Sort.Holds encF w1 g0 0 d) := hH0
      have B0 : Hid (Below w.heap.size w w1) := (below_drewN (Below.refl _ _) q).trans hB0
      have G0 : w.heap.size ≤ g0 := hg0
      clear hH0 hB0 hg0
      go_wp2
      have HM : Hid (Go.Sort.Holds encF (w1.alloc (.cells (madeCells #[.float .f64 0] k) 25)) w1.heap.size 0 (Array.replicate k 0)) := holds_made w1 k
      clear hmk HC
      go_loopw [5] (fun i wr => ∃ (t : Nat) (dk : Array Nat), t ≤ k ∧ i = .int .i64 t ∧ dk.size = k ∧ (∀ j, j < t → dk[j]! = Op.negFloat .f64 d[j]!) ∧ wr = Go.Sort.putRow encF (w1.alloc (.cells (madeCells #[.float .f64 0] k) 25)) w1.heap.size 0 dk)
        (fun i _ => k - (intOf i).toNat)
      case atStart => exact ⟨0, Array.replicate k 0, Nat.zero_le _, rfl, by simp, fun j hj => absurd hj (Nat.not_lt_zero _), (Go.Sort.putRow_self _ _ _ _ _ HM.out).symm⟩
      case round =>
        obtain ⟨t, dk, ht, rfl, hdk, hpre, hwr⟩ := hrel
        have hbel : Below w1.heap.size w1 wr := by
          rw [hwr]; exact below_putRow ((Below.refl _ _).alloc (Nat.le_refl _) _) (Nat.le_refl _) _
        have hHr : Go.Sort.Holds encF wr w1.heap.size 0 dk := by rw [hwr]; exact Go.Sort.holds_putRow _ _ _ _ _ _ HM.out (by simpa using hdk)
        have hsz : wr.heap.size = w1.heap.size + 1 := by rw [hwr]; simp
        have HP : Hid (∀ j, j < t → dk[j]! = Op.negFloat .f64 d[j]!) := hpre
        have HW : Hid (wr = Go.Sort.putRow encF (w1.alloc (.cells (madeCells #[.float .f64 0] k) 25)) w1.heap.size 0 dk) := hwr
        have HB : Hid (Below w1.heap.size w1 wr) := hbel
        have HR : Hid (Go.Sort.Holds encF wr w1.heap.size 0 dk) := hHr
        have HZ : Hid (wr.heap.size = w1.heap.size + 1) := hsz
        clear hpre hwr hbel hHr hsz
        by_cases htk : t < k
        · have c1 : wr.cell? ⟨g0, t, none⟩ = some (.float .f64 d[t]!) := by
            have := (H0.out t (by have := HD.out; omega)).1
            rw [Nat.zero_add] at this
            rw [HB.out.cell (p := ⟨g0, t, none⟩) hg0']; exact this
          have c2 : wr.cell? ⟨w1.heap.size, t, none⟩ = some (.float .f64 dk[t]!) := by have := (HR.out t (by omega)).1; rwa [Nat.zero_add] at this
          have c3 : wr.frozen? ⟨w1.heap.size, t, none⟩ = false := by have := (HR.out t (by omega)).2; rwa [Nat.zero_add] at this
          go_wp2
          go_roundw
          case rel =>
            refine ⟨t + 1, dk.setIfInBounds t (Op.negFloat .f64 d[t]!), by omega, by go_num, by simpa using hdk, fun j hj => ?_, ?_⟩
            · rw [getElem!_set (by omega)]
              by_cases e : t = j
              · rw [if_pos e, e]
              · rw [if_neg e]; exact HP.out j (by omega)
            · have := Go.Sort.putRow_set encF (w1.alloc (.cells (madeCells #[.float .f64 0] k) 25)) w1.heap.size 0 dk t (Op.negFloat .f64 d[t]!) (by omega)
              rw [Nat.zero_add, ← HW.out] at this
              exact this
          case measure => simp [intOf]; omega
        · have ed : dk = negA d := is_negA HD.out hdk (fun j hj => HP.out j (by omega))
          have N1 : Hid (Go.Sort.Holds encF wr w1.heap.size 0 (negA d)) := by rw [← ed]; exact HR.out
          have H1 : Hid (Go.Sort.Holds encF wr g0 0 d) := holds_below HB.out hg0' H0.out
          have B1 : Hid (Below w.heap.size w wr) := B0.out.trans (HB.out.mono (by have := B0.out.size; omega))
          have z1 : w1.heap.size < wr.heap.size := by rw [HZ.out]; omega
          obtain ⟨g1, hg1⟩ : ∃ g1, g1 = w1.heap.size := ⟨_, rfl⟩
          rw [← hg1] at N1 z1 hg0' ⊢
          clear HP HW HB HR HZ ed hdk H0 B0 HM hg1
          go_wp2_with fail
          have hcl := clone_any g0 0 k k d wr (by omega) hn ⟨HD.out, fun t ht => (H1.out t (by have := HD.out; omega)).1⟩
          refine hcl.mono ?_
          clear hcl
          rintro e w4 ⟨g2, hg2, hg2', rfl, hH4, hB4⟩
          have N4 : Hid (Go.Sort.Holds encF w4 g1 0 (negA d)) := holds_below hB4 z1 N1.out
          have H4 : Hid (Go.Sort.Holds encF w4 g0 0 d) := holds_below hB4 (by omega) H1.out
          have W4 : Hid (Go.Sort.Holds encF w4 g2 0 d) := hH4
          have B4 : Hid (Below w.heap.size w w4) := B1.out.trans (hB4.mono (by have := B1.out.size; omega))
          have z4 := B1.out.size
          clear hH4 hB4 N1 H1 B1
          go_wp2_with fail
          have hz := zsum_named g2 0 k k d HD.out w4 W4.out hg2' hn h0
          refine hz.mono ?_
          clear hz
          rintro e w5 ⟨m1, l1, h1, s, rfl, hsum, hg5⟩
          have N5 : Hid (Go.Sort.Holds encF w5 g1 0 (negA d)) := holds_below hsum.out.2.2.2.2.2 (by omega) N4.out
          have H5 : Hid (Go.Sort.Holds encF w5 g0 0 d) := holds_below hsum.out.2.2.2.2.2 (by omega) H4.out
          have B5 : Hid (Below w.heap.size w w5) := B4.out.trans (hsum.out.2.2.2.2.2.mono (by omega))
          have S5 : Hid (Srt d s ∧ l1 = s[0]! ∧ h1 = s[k - 1]! ∧ keyF m1 = medK s) := ⟨hsum.out.1, hsum.out.2.1, hsum.out.2.2.1, hsum.out.2.2.2.1⟩
          clear hsum N4 H4 W4 B4
          go_wp2_with fail
          have hz := zsum_named g1 0 k k (negA d) (by unfold negA; rw [Array.size_map]; exact HD.out) w5 N5.out (by omega) hn h0
          refine hz.mono ?_
          clear hz
          rintro e w6 ⟨m2, l2, h2, t2, rfl, hsum, hg6⟩
          have H6 : Hid (Go.Sort.Holds encF w6 g0 0 d) := holds_below hsum.out.2.2.2.2.2 (by omega) H5.out
          have B6 : Hid (Below w.heap.size w w6) := B5.out.trans (hsum.out.2.2.2.2.2.mono (by omega))
          have S6 : Hid (Srt (negA d) t2 ∧ l2 = t2[0]! ∧ h2 = t2[k - 1]! ∧ keyF m2 = medK t2) := ⟨hsum.out.1, hsum.out.2.1, hsum.out.2.2.1, hsum.out.2.2.2.1⟩
          clear hsum N5 H5 B5
          go_wp2_with fail
          have hmm := minmax_any g0 0 k k d w6 hn h0 ⟨HD.out, fun t ht => (H6.out t (by have := HD.out; omega)).1⟩
          refine hmm.mono ?_
          clear hmm
          rintro e w7 ⟨lo, hi, q7, rfl, hlh, hw7⟩
          subst hw7
          obtain ⟨p1, p2, p3, p4, p5⟩ := neg_plain HD.out h0 HNN.out S5.out.1 S6.out.1 hlh S5.out.2.1 S5.out.2.2.1 S5.out.2.2.2 S6.out.2.1 S6.out.2.2.1 S6.out.2.2.2
          clear hlh
          go_wp2_with (go_at_call 10; refine (feq_any _ _ _).mono ?_; rintro e wx ⟨rfl, hwx⟩; replace hwx := hwx.symm; subst hwx)
          go_ret
          exact ⟨rfl, below_drewN B6.out _⟩

end Go.Proofs.Qxb6605729a
