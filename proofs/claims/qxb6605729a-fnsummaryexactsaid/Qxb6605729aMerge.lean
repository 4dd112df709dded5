import Derived.Test.Qxb6605729aMerge0
namespace Go.Proofs.Qxb6605729a
open Go.RowKit
attribute [local go_sem] run_store_float

theorem lessF_all (x y : Nat) : ((FloatKind.f64.format.order x x != some .eq && FloatKind.f64.format.order y y == some .eq) || FloatKind.f64.format.order x y == some .lt) = ltF x y := by
  show ((nanF x && (Ieee.double.order y y == some .eq)) || (Ieee.double.order x y == some .lt)) = ltF x y
  unfold ltF nanF
  simp [bne]

set_option maxHeartbeats 400000 in
theorem lessF_any (x y : Nat) (w : World) : Calls Try.prog 15 #[.float .f64 x, .float .f64 y] w fun e w' => e = .returned (.bool (ltF x y)) ∧ w' = w := by
  by_cases h1 : FloatKind.f64.format.order x x = some .eq
  · have e1 : (FloatKind.f64.format.order x x != some .eq) = false := by simp [h1]
    go_enter Try.func15, Try.ntmps15
    go_wp2
    go_ret
    exact ⟨ret_bool (by rw [← lessF_all, e1]; simp), rfl⟩
  · have e1 : (FloatKind.f64.format.order x x != some .eq) = true := by simp [h1]
    by_cases h2 : FloatKind.f64.format.order y y = some .eq
    · go_enter Try.func15, Try.ntmps15
      go_wp2
      go_ret
      exact ⟨ret_bool (by rw [← lessF_all, e1, h2]; simp), rfl⟩
    · have e2 : (FloatKind.f64.format.order y y == some .eq) = false := by rw [beq_eq_false_iff_ne]; exact h2
      go_enter Try.func15, Try.ntmps15
      go_wp2
      go_ret
      exact ⟨ret_bool (by rw [← lessF_all, e1, e2]; simp), rfl⟩

set_option maxHeartbeats 400000 in
theorem minint_any (a b : Nat) (x : Int) (hx : x = (a : Int)) (w : World) :
    Calls Try.prog 14 #[.int .i64 x, .int .i64 (b : Int)] w fun e w' => ∃ m : Nat, e = .returned (.int .i64 (m : Int)) ∧ Hid (m = min a b) ∧ w' = w := by
  subst hx
  by_cases h : a < b
  · go_enter Try.func14, Try.ntmps14
    go_wp2
    go_ret
    exact ⟨a, rfl, (by show a = min a b; omega), rfl⟩
  · go_enter Try.func14, Try.ntmps14
    go_wp2
    go_ret
    exact ⟨b, rfl, (by show b = min a b; omega), rfl⟩

/-! ### What each way of a round does, outside the walk -/
theorem r4_j {w0 wy : World} {ga gb : Nat} {A B : Array Nat} {V lo m h i j k n xi xj q : Nat} (HM : Mrg A B V lo m h i j k) (HW : MW w0 ga gb A B wy) (hh : Halves A lo m h)
    (hA : A.size = n) (hB : B.size = n) (hn : h ≤ n) (hli : lo ≤ i) (him : i < m) (hmj : m ≤ j) (hjh : j < h) (hk : k + m = i + j) (ei : xi = A[i]!) (ej : xj = A[j]!) (hlt : ltF xj xi = true) :
    (B.setIfInBounds k xj).size = n ∧ Mrg A (B.setIfInBounds k xj) V lo m h i (j + 1) (k + 1) ∧ MW w0 ga gb A (B.setIfInBounds k xj) ((wy.setCell ⟨gb, k, none⟩ (.float .f64 xj)).drewN q) := by
  subst ei ej
  rw [ltF_eq] at hlt
  simp at hlt
  refine ⟨by simpa using hB, mrg_j HM hh (by omega) (by omega) hmj hjh (by omega) (fun y a b => ?_), (HW.store (by omega) _).drewN q⟩
  by_cases e : i = y
  · subst e; omega
  · have := hh.1 i y hli (by omega) b; omega

theorem r4_i {w0 wy : World} {ga gb : Nat} {A B : Array Nat} {V lo m h i j k n xi xj q : Nat} (HM : Mrg A B V lo m h i j k) (HW : MW w0 ga gb A B wy) (hh : Halves A lo m h)
    (hA : A.size = n) (hB : B.size = n) (hn : h ≤ n) (hm : m ≤ n) (hli : lo ≤ i) (him : i < m) (hmj : m ≤ j) (hjh : j < h) (hk : k + m = i + j) (ei : xi = A[i]!) (ej : xj = A[j]!) (hlt : ltF xj xi = false) :
    (B.setIfInBounds k xi).size = n ∧ Mrg A (B.setIfInBounds k xi) V lo m h (i + 1) j (k + 1) ∧ MW w0 ga gb A (B.setIfInBounds k xi) ((wy.setCell ⟨gb, k, none⟩ (.float .f64 xi)).drewN q) := by
  subst ei ej
  rw [ltF_eq] at hlt
  simp at hlt
  refine ⟨by simpa using hB, mrg_i HM hh (by omega) (by omega) hli him (by omega) (fun y a b => ?_), (HW.store (by omega) _).drewN q⟩
  by_cases e : j = y
  · subst e; omega
  · have := hh.2 j y hmj (by omega) b; omega

theorem r5_i {w0 wy : World} {ga gb : Nat} {A B : Array Nat} {V lo m h i j k n xi : Nat} (HM : Mrg A B V lo m h i j k) (HW : MW w0 ga gb A B wy) (hh : Halves A lo m h)
    (hA : A.size = n) (hB : B.size = n) (hn : h ≤ n) (hm : m ≤ n) (hli : lo ≤ i) (him : i < m) (hj : j = h) (hmh : m ≤ h) (hk : k + m = i + j) (ei : xi = A[i]!) :
    (B.setIfInBounds k xi).size = n ∧ Mrg A (B.setIfInBounds k xi) V lo m h (i + 1) j (k + 1) ∧ MW w0 ga gb A (B.setIfInBounds k xi) (wy.setCell ⟨gb, k, none⟩ (.float .f64 xi)) := by
  subst ei
  exact ⟨by simpa using hB, mrg_i HM hh (by omega) (by omega) hli him (by omega) (fun y a b => by omega), HW.store (by omega) _⟩

theorem r6_j {w0 wy : World} {ga gb : Nat} {A B : Array Nat} {V lo m h j k n xj : Nat} (HM : Mrg A B V lo m h m j k) (HW : MW w0 ga gb A B wy) (hh : Halves A lo m h)
    (hA : A.size = n) (hB : B.size = n) (hn : h ≤ n) (hlm : lo ≤ m) (hmj : m ≤ j) (hjh : j < h) (hk : k = j) (ej : xj = A[j]!) :
    (B.setIfInBounds k xj).size = n ∧ Mrg A (B.setIfInBounds k xj) V lo m h m (j + 1) (k + 1) ∧ MW w0 ga gb A (B.setIfInBounds k xj) (wy.setCell ⟨gb, k, none⟩ (.float .f64 xj)) := by
  subst ej
  exact ⟨by simpa using hB, mrg_j HM hh (by omega) (by omega) hmj hjh (by omega) (fun y a b => by omega), HW.store (by omega) _⟩

set_option maxHeartbeats 2000000 in
set_option maxRecDepth 1000000 in
theorem merge_any (b off n c : Nat) (d : Array Nat) (w : World) (hb : b < w.heap.size) (hn : n ≤ 131072) (h0 : 0 < n) (hR : RowF w b off n d) :
    Calls Try.prog 8 #[.slice (some ⟨b, off, none⟩) n c] w fun e w' => ∃ (g : Nat) (A : Array Nat), e = .returned (.slice (some ⟨g, 0, none⟩) n n) ∧ w.heap.size ≤ g ∧ g < w'.heap.size ∧ Srt d A ∧ Go.Sort.Holds encF w' g 0 A ∧ Below w.heap.size w w' := by
  obtain ⟨hd, hc⟩ := hR
  have hmk := run_make_row' (P := Try.prog) 22 25 (.float .f64 0) 8 Try.underlying22 Try.info25 rfl .i64 .i64 n (by omega) (by omega)
  have HC : Hid (∀ t, t < n → w.cell? ⟨b, off + t, none⟩ = some (.float .f64 d[t]!)) := hc
  have HD : Hid (d.size = n) := hd
  have HH : Hid (Go.Sort.Holds encF (w.alloc (.cells (madeCells #[.float .f64 0] n) 25)) w.heap.size 0 (Array.replicate n 0)) := holds_made w n
  clear hc hd
  go_enter Try.func8, Try.ntmps8
  go_wp2
  go_loopw [5] (fun i wr => ∃ (k : Nat) (dk : Array Nat), k ≤ n ∧ i = .int .i64 k ∧ dk.size = n ∧ (∀ j, j < k → dk[j]! = d[j]!) ∧ wr = Go.Sort.putRow encF (w.alloc (.cells (madeCells #[.float .f64 0] n) 25)) w.heap.size 0 dk)
    (fun i _ => n - (intOf i).toNat)
  case atStart => exact ⟨0, Array.replicate n 0, Nat.zero_le _, rfl, by simp, fun j hj => absurd hj (Nat.not_lt_zero _), (Go.Sort.putRow_self _ _ _ _ _ HH.out).symm⟩
  case round =>
    obtain ⟨k, dk, hk, rfl, hdk, hpre, hwr⟩ := hrel
    have hbel : Below w.heap.size w wr := by
      rw [hwr]; exact below_putRow ((Below.refl _ _).alloc (Nat.le_refl _) _) (Nat.le_refl _) _
    have hHr : Go.Sort.Holds encF wr w.heap.size 0 dk := by rw [hwr]; exact Go.Sort.holds_putRow _ _ _ _ _ _ HH.out (by simpa using hdk)
    have hsz : wr.heap.size = w.heap.size + 1 := by rw [hwr]; simp
    have HP : Hid (∀ j, j < k → dk[j]! = d[j]!) := hpre
    have HW : Hid (wr = Go.Sort.putRow encF (w.alloc (.cells (madeCells #[.float .f64 0] n) 25)) w.heap.size 0 dk) := hwr
    have HB : Hid (Below w.heap.size w wr) := hbel
    have HR : Hid (Go.Sort.Holds encF wr w.heap.size 0 dk) := hHr
    have HZ : Hid (wr.heap.size = w.heap.size + 1) := hsz
    clear hpre hwr hbel hHr hsz
    by_cases hlt : k < n
    · clear hmk
      have c1 : wr.cell? ⟨b, off + k, none⟩ = some (.float .f64 d[k]!) := by rw [HB.out.cell (p := ⟨b, off + k, none⟩) hb]; exact HC.out k hlt
      have c2 : wr.cell? ⟨w.heap.size, k, none⟩ = some (.float .f64 dk[k]!) := by have := (HR.out k (by omega)).1; rwa [Nat.zero_add] at this
      have c3 : wr.frozen? ⟨w.heap.size, k, none⟩ = false := by have := (HR.out k (by omega)).2; rwa [Nat.zero_add] at this
      go_wp2
      go_roundw
      case rel =>
        refine ⟨k + 1, dk.setIfInBounds k d[k]!, by omega, by go_num, by simpa using hdk, fun j hj => ?_, ?_⟩
        · rw [getElem!_set (by omega)]
          by_cases e : k = j
          · rw [if_pos e, e]
          · rw [if_neg e]; exact HP.out j (by omega)
        · have := Go.Sort.putRow_set encF (w.alloc (.cells (madeCells #[.float .f64 0] n) 25)) w.heap.size 0 dk k d[k]! (by omega)
          rw [Nat.zero_add, ← HW.out] at this
          exact this
      case measure => simp [intOf]; omega
    · have ed : dk = d := ext! (by rw [hdk, HD.out]) (fun j hj => HP.out j (by omega))
      have hMW : ∀ o, o = Obj.cells (madeCells #[.float .f64 0] n) 25 → MW w w.heap.size wr.heap.size d (Array.replicate n 0) (wr.alloc o) := fun o ho => by
        subst ho
        refine ⟨HB.out.alloc HB.out.size _, Nat.le_refl _, HB.out.size, by rw [HZ.out]; omega, by simp; rw [HZ.out]; omega, by simp, ?_, holds_made wr n⟩
        exact holds_below ((Below.refl _ _).alloc (Nat.le_refl _) _) (by rw [HZ.out]; omega) (by rw [← ed]; exact HR.out)
      have HMW : Hid (MW w w.heap.size wr.heap.size d (Array.replicate n 0) (wr.alloc (.cells (madeCells #[.float .f64 0] n) 25))) := hMW _ rfl
      clear hMW HP HW HB HR HZ ed hdk HH HC
      go_wp2
      clear hmk
      go_loopw [4, 6, 7] (fun s4 s6 s7 wx => ∃ (ga gb W : Nat) (A B : Array Nat), s4 = .slice (some ⟨ga, 0, none⟩) n n ∧ s6 = .slice (some ⟨gb, 0, none⟩) n n ∧ s7 = .int .i64 W ∧ 1 ≤ W ∧ W ≤ 2 * n ∧ A.size = n ∧ B.size = n ∧ A.toList.Perm d.toList ∧ Blk W n A ∧ MW w ga gb A B wx)
        (fun _ _ s7 _ => n - (intOf s7).toNat)
      case atStart => exact ⟨w.heap.size, wr.heap.size, 1, d, Array.replicate n 0, rfl, rfl, rfl, Nat.le_refl _, by omega, HD.out, by simp, List.Perm.refl _, blk_one _ _, HMW.out⟩
      case round =>
        clear HMW
        obtain ⟨ga, gb, W, A, B, rfl, rfl, rfl, hW1, hW2, hsA, hsB, hpA, hblk, hmw⟩ := hrel
        have HPA : Hid (A.toList.Perm d.toList) := hpA
        have HBK : Hid (Blk W n A) := hblk
        have HMW : Hid (MW w ga gb A B wr) := hmw
        have HSA : Hid (A.size = n) := hsA
        have HSB : Hid (B.size = n) := hsB
        clear hpA hblk hmw hsA hsB
        by_cases hWn : W < n
        · go_wp2
          go_loopw [8] (fun s8 wx => ∃ (lo q : Nat) (B : Array Nat), s8 = .int .i64 lo ∧ lo = q * (2 * W) ∧ lo < 3 * n ∧ B.size = n ∧ Mid A B (2 * W) (min lo n) ∧ MW w ga gb A B wx) (fun s8 _ => n - (intOf s8).toNat)
          case atStart => exact ⟨0, 0, B, rfl, by simp, by omega, HSB.out, by rw [Nat.zero_min]; exact mid_zero _ _ _, HMW.out⟩
          case round =>
            clear HMW HSB
            obtain ⟨lo, q, B, rfl, hlo, hlo3, hsB, hmid, hmw⟩ := hrel
            have HLO : Hid (lo = q * (2 * W)) := hlo
            have HSB : Hid (B.size = n) := hsB
            have HMD : Hid (Mid A B (2 * W) (min lo n)) := hmid
            have HMW : Hid (MW w ga gb A B wr) := hmw
            clear hlo hsB hmid hmw
            by_cases hlt2 : lo < n
            · go_wp2_with fail
              refine (minint_any (lo + W) n _ (by omega) _).mono ?_
              rintro e wx ⟨mid, rfl, hmid, hwx⟩
              replace hwx := hwx.symm
              subst hwx
              go_wp2_with fail
              refine (minint_any (lo + 2 * W) n _ (by omega) _).mono ?_
              rintro e wx ⟨hi, rfl, hhi, hwx⟩
              replace hwx := hwx.symm
              subst hwx
              have b1 : mid ≤ lo + W := by have := hmid.out; omega
              have b2 : mid ≤ n := by have := hmid.out; omega
              have b3 : lo ≤ mid := by have := hmid.out; omega
              have b4 : hi ≤ n := by have := hhi.out; omega
              have b5 : mid ≤ hi := by have := hmid.out; have := hhi.out; omega
              have HV : Hid (Halves A lo mid hi) := halves_of HBK.out hW1 HLO.out (by have := hmid.out; omega) (by have := hmid.out; have := hhi.out; omega) (by have := hhi.out; omega) b4 b2
              have HMD2 : Hid (Mid A B (2 * W) lo) := by have := HMD.out; rwa [Nat.min_eq_left (by omega)] at this
              clear HMD
              go_wp2
              go_loopw [11, 12, 13] (fun s11 s12 s13 wx => ∃ (i j k : Nat) (B : Array Nat), s11 = .int .i64 i ∧ s12 = .int .i64 j ∧ s13 = .int .i64 k ∧ lo ≤ i ∧ i ≤ mid ∧ mid ≤ j ∧ j ≤ hi ∧ k + mid = i + j ∧ B.size = n ∧ Mrg A B (2 * W) lo mid hi i j k ∧ MW w ga gb A B wx)
                (fun s11 s12 _ _ => 2 * n - ((intOf s11).toNat + (intOf s12).toNat))
              case atStart => exact ⟨lo, mid, lo, B, rfl, rfl, rfl, Nat.le_refl _, b3, Nat.le_refl _, b5, rfl, HSB.out, mrg_start HMD2.out, HMW.out⟩
              case round =>
                clear HMW HSB HMD2
                obtain ⟨i, j, t, B, rfl, rfl, rfl, hi1, hi2, hj1, hj2, ht, hsB, hmrg, hmw⟩ := hrel
                have HSB : Hid (B.size = n) := hsB
                have HMG : Hid (Mrg A B (2 * W) lo mid hi i j t) := hmrg
                have HMW : Hid (MW w ga gb A B wr) := hmw
                have HT : Hid (t + mid = i + j) := ht
                have ht2 : t < i + j + 1 := by omega
                have ht3 : t ≤ hi := by omega
                clear hsB hmrg hmw ht
                by_cases hcond : i < mid ∧ j < hi
                · obtain ⟨q1, q2⟩ := hcond
                  have ht4 : t < n := by have := HT.out; omega
                  obtain ⟨xi, hxi⟩ : ∃ x, x = A[i]! := ⟨_, rfl⟩
                  obtain ⟨xj, hxj⟩ : ∃ x, x = A[j]! := ⟨_, rfl⟩
                  obtain ⟨xt, hxt⟩ : ∃ x, x = B[t]! := ⟨_, rfl⟩
                  have c1 : wr.cell? ⟨ga, i, none⟩ = some (.float .f64 xi) := by rw [hxi]; exact HMW.out.cellA (by have := HSA.out; omega)
                  have c2 : wr.cell? ⟨ga, j, none⟩ = some (.float .f64 xj) := by rw [hxj]; exact HMW.out.cellA (by have := HSA.out; omega)
                  have c3 : wr.cell? ⟨gb, t, none⟩ = some (.float .f64 xt) := by rw [hxt]; exact HMW.out.cellB (by have := HSB.out; omega)
                  have c4 : wr.frozen? ⟨gb, t, none⟩ = false := HMW.out.frozenB (by have := HSB.out; omega)
                  have XI : Hid (xi = A[i]!) := hxi
                  have XJ : Hid (xj = A[j]!) := hxj
                  clear hxi hxj hxt
                  go_wp2
                  go_quiet (first | (go_at_call 15; refine Calls.quiet_of_same (lessF_any _ _ _)))
                  go_wp2
                  · go_roundw
                    case rel =>
                      obtain ⟨e1, e2, e3⟩ := r4_j (q := nq) HMG.out HMW.out HV.out HSA.out HSB.out b4 hi1 q1 hj1 q2 HT.out XI.out XJ.out ‹_›
                      exact ⟨i, j + 1, t + 1, _, rfl, by go_num, by go_num, hi1, hi2, by omega, by omega, by have := HT.out; omega, e1, e2, e3⟩
                    case measure => simp [intOf]; omega
                  · go_roundw
                    case rel =>
                      obtain ⟨e1, e2, e3⟩ := r4_i (q := nq) HMG.out HMW.out HV.out HSA.out HSB.out b4 b2 hi1 q1 hj1 q2 HT.out XI.out XJ.out ‹_›
                      exact ⟨i + 1, j, t + 1, _, by go_num, rfl, by go_num, by omega, by omega, hj1, hj2, by have := HT.out; omega, e1, e2, e3⟩
                    case measure => simp [intOf]; omega
                · have HX : Hid (i < mid → j = hi) := fun h => by omega
                  by_cases q1 : i < mid
                  all_goals
                    go_wp2
                    go_loopw [11, 13] (fun s11 s13 wx => ∃ (i t : Nat) (B : Array Nat), s11 = .int .i64 i ∧ s13 = .int .i64 t ∧ lo ≤ i ∧ i ≤ mid ∧ (i < mid → j = hi) ∧ t + mid = i + j ∧ B.size = n ∧ Mrg A B (2 * W) lo mid hi i j t ∧ MW w ga gb A B wx)
                      (fun s11 _ _ => n - (intOf s11).toNat)
                    case atStart => exact ⟨i, t, B, rfl, rfl, hi1, hi2, HX.out, HT.out, HSB.out, HMG.out, HMW.out⟩
                    case round =>
                      clear HMW HSB HMG HT HX hcond q1 ht2 ht3 hi1 hi2
                      obtain ⟨i, t, B, rfl, rfl, hi1, hi2, hx, ht, hsB, hmrg, hmw⟩ := hrel
                      have HSB : Hid (B.size = n) := hsB
                      have HMG : Hid (Mrg A B (2 * W) lo mid hi i j t) := hmrg
                      have HMW : Hid (MW w ga gb A B wr) := hmw
                      have HT : Hid (t + mid = i + j) := ht
                      have HX : Hid (i < mid → j = hi) := hx
                      have ht3 : t ≤ hi := by omega
                      clear hsB hmrg hmw ht hx
                      by_cases q1 : i < mid
                      · have ht4 : t < n := by have := HT.out; omega
                        obtain ⟨xi, hxi⟩ : ∃ x, x = A[i]! := ⟨_, rfl⟩
                        obtain ⟨xt, hxt⟩ : ∃ x, x = B[t]! := ⟨_, rfl⟩
                        have c1 : wr.cell? ⟨ga, i, none⟩ = some (.float .f64 xi) := by rw [hxi]; exact HMW.out.cellA (by have := HSA.out; omega)
                        have c3 : wr.cell? ⟨gb, t, none⟩ = some (.float .f64 xt) := by rw [hxt]; exact HMW.out.cellB (by have := HSB.out; omega)
                        have c4 : wr.frozen? ⟨gb, t, none⟩ = false := HMW.out.frozenB (by have := HSB.out; omega)
                        have XI : Hid (xi = A[i]!) := hxi
                        clear hxi hxt
                        go_wp2
                        go_roundw
                        case rel =>
                          obtain ⟨e1, e2, e3⟩ := r5_i HMG.out HMW.out HV.out HSA.out HSB.out b4 b2 hi1 q1 (HX.out q1) b5 HT.out XI.out
                          exact ⟨i + 1, t + 1, _, by go_num, by go_num, by omega, by omega, fun _ => HX.out q1, by have := HT.out; omega, e1, e2, e3⟩
                        case measure => simp [intOf]; omega
                      · have ei : i = mid := by omega
                        have HMG2 : Hid (Mrg A B (2 * W) lo mid hi mid j t) := by have hm := HMG.out; rw [ei] at hm; exact hm
                        have HT2 : Hid (t = j) := by have := HT.out; show t = j; omega
                        clear HMG HT HX
                        go_wp2
                        go_loopw [12, 13] (fun s12 s13 wx => ∃ (j t : Nat) (B : Array Nat), s12 = .int .i64 j ∧ s13 = .int .i64 t ∧ mid ≤ j ∧ j ≤ hi ∧ t = j ∧ B.size = n ∧ Mrg A B (2 * W) lo mid hi mid j t ∧ MW w ga gb A B wx)
                          (fun s12 _ _ => n - (intOf s12).toNat)
                        case atStart => exact ⟨j, t, B, rfl, rfl, hj1, hj2, HT2.out, HSB.out, HMG2.out, HMW.out⟩
                        case round =>
                          clear HMW HSB HMG2 HT2 hj1 hj2 ht3 q1 ei
                          obtain ⟨j, t, B, rfl, rfl, hj1, hj2, ht, hsB, hmrg, hmw⟩ := hrel
                          have HSB : Hid (B.size = n) := hsB
                          have HMG : Hid (Mrg A B (2 * W) lo mid hi mid j t) := hmrg
                          have HMW : Hid (MW w ga gb A B wr) := hmw
                          have HT : Hid (t = j) := ht
                          have ht3 : t ≤ hi := by omega
                          clear hsB hmrg hmw ht
                          by_cases q2 : j < hi
                          · have ht4 : t < n := by have := HT.out; omega
                            obtain ⟨xj, hxj⟩ : ∃ x, x = A[j]! := ⟨_, rfl⟩
                            obtain ⟨xt, hxt⟩ : ∃ x, x = B[t]! := ⟨_, rfl⟩
                            have c1 : wr.cell? ⟨ga, j, none⟩ = some (.float .f64 xj) := by rw [hxj]; exact HMW.out.cellA (by have := HSA.out; omega)
                            have c3 : wr.cell? ⟨gb, t, none⟩ = some (.float .f64 xt) := by rw [hxt]; exact HMW.out.cellB (by have := HSB.out; omega)
                            have c4 : wr.frozen? ⟨gb, t, none⟩ = false := HMW.out.frozenB (by have := HSB.out; omega)
                            have XJ : Hid (xj = A[j]!) := hxj
                            clear hxj hxt
                            go_wp2
                            go_roundw
                            case rel =>
                              obtain ⟨e1, e2, e3⟩ := r6_j HMG.out HMW.out HV.out HSA.out HSB.out b4 b3 hj1 q2 HT.out XJ.out
                              exact ⟨j + 1, t + 1, _, by go_num, by go_num, by omega, by omega, by have := HT.out; omega, e1, e2, e3⟩
                            case measure => simp [intOf]; omega
                          · have HE : Hid (Mid A B (2 * W) hi) := by
                              have ej : j = hi := by omega
                              have hm := HMG.out
                              rw [ej] at hm
                              exact mrg_end hm (by have := HT.out; omega) b5 q HLO.out (by omega) (by have := hhi.out; omega)
                            clear HMG HT
                            go_wp2
                            go_roundw
                            case rel =>
                              refine ⟨lo + 2 * W, q + 1, B, by go_num, by rw [Nat.add_mul, ← HLO.out]; omega, by omega, HSB.out, ?_, HMW.out⟩
                              rw [← hhi.out]; exact HE.out
                            case measure => simp [intOf]; omega
            · go_wp2
              go_roundw
              case rel =>
                have hm := HMD.out
                rw [Nat.min_eq_right (by omega)] at hm
                exact ⟨gb, ga, W * 2, B, A, rfl, rfl, by go_num, by omega, by omega, HSB.out, HSA.out, mid_all HPA.out hm HSA.out HSB.out, by rw [Nat.mul_comm]; exact hm.2, HMW.out.flip⟩
              case measure => simp [intOf]; omega
        · go_wp2
          go_ret
          exact ⟨ga, A, rfl, HMW.out.2.1, HMW.out.2.2.2.2.1, blk_srt HPA.out HBK.out (by omega) HSA.out HD.out, HMW.out.2.2.2.2.2.2.1, HMW.out.1⟩

end Go.Proofs.Qxb6605729a
