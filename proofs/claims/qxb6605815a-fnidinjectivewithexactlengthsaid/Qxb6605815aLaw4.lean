import Derived.Test.Qxb6605815aOpen
import Derived.Test.Qxb6605815aPlain
import Derived.Test.Qxb6605815aZ6
namespace Go.Proofs.Qxb6605815a
open Go.RowKit

set_option maxHeartbeats 400000 in
theorem bytes9_any (fA fB : Bool) (e : Int) (K : Nat → Bool) (a b : ByteArray) (ha : a.size ≤ maxLen) (hb : b.size ≤ maxLen) (w : World) :
    Calls Try.prog 9 #[.bool fA, .string a, .bool fB, .string b, .int .u8 e, .agg (tabV K)] w fun e w' => (∃ r : Bool, e = .returned (.bool r)) ∧ w' = w.alloc (.cells (tabV K) 22) := by
  unfold maxLen at ha hb
  go_enter Try.func9, Try.ntmps9
  go_wp2
  all_goals go_ret
  all_goals exact ⟨⟨_, rfl⟩, rfl⟩

theorem cnt_succ (e : UInt8) (K : Nat → Bool) (key : ByteArray) (k : Nat) (h : k < key.size) :
    cntL e K (key.data.toList.take (k + 1)) = cntL e K (key.data.toList.take k) + if (key[k] == e || !K key[k].toNat) = true then 1 else 0 := by
  rw [take_key key k h]
  unfold cntL
  rw [List.countP_append]
  congr 1
  simp only [List.countP_cons, List.countP_nil, Nat.zero_add]

set_option maxHeartbeats 1000000 in
set_option maxRecDepth 1000000 in
theorem shaped10_any (f : Bool) (key id : ByteArray) (e : UInt8) (K : Nat → Bool) (w : World) (hk : key.size ≤ 524288) (hid : id = ⟨(idL f e K key).toArray⟩) :
    Calls Try.prog 10 #[.bool f, .string key, .string id, .int .u8 (e.toNat : Int), .agg (tabV K)] w fun r w' => r = .returned (.bool true) ∧ Below w.heap.size w w' := by
  have HI : Hid (id = ⟨(idL f e K key).toArray⟩) := hid
  clear hid
  cases hp : (f && !hasP key pfxA) with
  | true =>
    have HI2 : Hid (id = key) := by
      show id = key
      rw [HI.out, idL_plain hp]
    clear HI
    cases f
    · cases hp
    · have hp1 : hasP key pfxA = false := by simpa using hp
      clear hp
      go_enter Try.func10, Try.ntmps10
      go_wp2_with fail
      refine (prefix7_any key pfxA _).mono ?_
      rw [hp1]
      clear hp1
      rintro r wx ⟨rfl, rfl⟩
      go_wp2
      go_ret
      exact ⟨ret_true (by rw [HI2.out]; simp), (Below.refl _ _).alloc (Nat.le_refl _) _⟩
  | false =>
    have HI2 : Hid (id = ⟨(pfxL ++ escL e K key.data.toList).toArray⟩) := by
      show id = _
      rw [HI.out, idL_esc hp]
    have HQ : Hid (hasP id pfxA = true) := by show hasP id pfxA = true; rw [HI2.out]; exact hasP_app _
    have HS : Hid (id.size = 17 + key.size + 2 * cntL e K key.data.toList) := by
      show id.size = _
      rw [HI2.out]
      show (pfxL ++ escL e K key.data.toList).toArray.size = _
      rw [List.size_toArray, List.length_append, escL_length, Lib.size_eq]
      have : pfxL.length = 17 := rfl
      omega
    clear HI HI2
    have hp2 : f = false ∨ hasP key pfxA = true := by cases f <;> simp at hp ⊢; exact hp
    clear hp
    obtain ⟨W, hW⟩ : ∃ W, W = w.alloc (.cells (tabV K) 22) := ⟨_, rfl⟩
    have T : Hid (HasTab K w.heap.size W) := by rw [hW]; exact (MapKept.heap_alloc w (.cells (tabV K) 22)).1
    have B : Hid (Below w.heap.size w W) := by rw [hW]; exact (Below.refl _ _).alloc (Nat.le_refl _) _
    cases f
    case' false =>
      clear hp2
      go_enter Try.func10, Try.ntmps10
      go_wp2_with fail
    case' true =>
      have hp1 : hasP key pfxA = true := by rcases hp2 with h | h; cases h; exact h
      clear hp2
      go_enter Try.func10, Try.ntmps10
      go_wp2_with fail
      refine (prefix7_any key pfxA _).mono ?_
      rw [hp1]
      clear hp1
      rintro r wx ⟨rfl, rfl⟩
      go_wp2_with fail
    all_goals
      rw [← hW]
      clear hW
      go_loopw [12, 13] (fun a b wr => wr = W ∧ ∃ k n : Nat, k ≤ key.size ∧ n ≤ k ∧ a = .int .i64 n ∧ b = .int .i64 k ∧ n = cntL e K (key.data.toList.take k)) (fun _ b _ => key.size - (intOf b).toNat)
      case atStart => exact ⟨rfl, 0, 0, Nat.zero_le _, Nat.le_refl _, rfl, rfl, rfl⟩
      case round =>
        obtain ⟨hwr, k, n, hkk, hnk, rfl, rfl, hn⟩ := hrel
        replace hwr := hwr.symm; subst hwr
        by_cases hj : k < key.size
        · have HC := cnt_succ e K key k hj
          rw [← hn] at HC
          have hc256 : (key[k].toNat : Int) < 256 := by have := UInt8.toNat_lt key[k]; omega
          have ck := T.out.cell (i := key[k].toNat) (UInt8.toNat_lt _)
          clear hn
          cases hb : ((key[k].toNat : Int) == (e.toNat : Int)) with
          | true =>
            have : key[k] = e := UInt8.toNat_inj.1 (by have := eq_of_beq hb; omega)
            rw [if_pos (by rw [this]; simp)] at HC
            have HC' : Hid (cntL e K (key.data.toList.take (k + 1)) = n + 1) := HC
            clear HC this
            go_wp2
            go_roundw
            case rel => exact ⟨trivial, k + 1, n + 1, by omega, by omega, by go_num, by go_num, HC'.out.symm⟩
            case measure => simp [intOf]; omega
          | false =>
            have hne : (key[k] == e) = false := by
              rw [beq_eq_false_iff_ne]; intro hh; rw [hh] at hb; simp at hb
            rw [hne] at HC
            cases hK : K key[k].toNat with
            | false =>
              rw [hK] at HC ck
              have HC' : Hid (cntL e K (key.data.toList.take (k + 1)) = n + 1) := HC
              clear HC hne hK
              go_wp2
              go_roundw
              case rel => exact ⟨trivial, k + 1, n + 1, by omega, by omega, by go_num, by go_num, HC'.out.symm⟩
              case measure => simp [intOf]; omega
            | true =>
              rw [hK] at HC ck
              have HC' : Hid (cntL e K (key.data.toList.take (k + 1)) = n) := HC
              clear HC hne hK
              go_wp2
              go_roundw
              case rel => exact ⟨trivial, k + 1, n, by omega, by omega, by go_num, by go_num, HC'.out.symm⟩
              case measure => simp [intOf]; omega
        · have ek : k = key.size := by omega
          have hS : id.size = 17 + key.size + 2 * n := by
            rw [HS.out, hn, ek, List.take_of_length_le (by rw [← Lib.size_eq]; exact Nat.le_refl _)]
          clear hn HS
          go_wp2_with fail
          refine (prefix7_any id pfxA _).mono ?_
          rw [HQ.out]
          clear HQ
          rintro r wx ⟨rfl, hwx⟩; replace hwx := hwx.symm; subst hwx
          go_wp2
          go_ret
          exact ⟨ret_true (by simp), B.out⟩

set_option maxHeartbeats 8000000 in
set_option maxRecDepth 1000000 in
theorem law4 (fA : Bool) (a : ByteArray) (fB : Bool) (b : ByteArray) (e : UInt8) (K : Nat → Bool) (w : World) (ha : a.size ≤ maxLen) (hb : b.size ≤ maxLen) :
    Calls Try.prog 4 #[.bool fA, .string a, .bool fB, .string b, .int .u8 (e.toNat : Int), .agg (tabV K)] w fun r w' => r = .returned (.bool true) ∧ Below w.heap.size w w' := by
  have ha' := ha
  have hb' := hb
  unfold maxLen at ha' hb'
  have HT : Hid (HasTab K w.heap.size (w.alloc (.cells (tabV K) 22))) := (MapKept.heap_alloc w (.cells (tabV K) 22)).1
  go_enter Try.func4, Try.ntmps4
  go_wp2_with (refine wpList_load_row rfl 22 _ rfl w.heap.size rfl 22 (tabV K) (0, 0) _ HT.out Try.underlying22 rfl (tab_info K) ?_)
  refine (bytes9_any fA fB e.toNat K a b ha hb _).mono ?_
  rintro r w1 ⟨⟨r, rfl⟩, hw1⟩
  have T1 : Hid (HasTab K w.heap.size w1) := by rw [hw1]; exact HT.out.alloc (by simp) _
  have B1 : Hid (Below w.heap.size w w1) := by rw [hw1]; exact ((Below.refl _ _).alloc (Nat.le_refl _) _).alloc (by simp) _
  clear hw1 HT
  cases r
  · go_wp2
    go_ret
    exact ⟨rfl, B1.out⟩
  by_cases ha2 : a.size ≤ 524288
  case neg =>
    go_wp2
    all_goals go_ret
    all_goals exact ⟨rfl, B1.out⟩
  by_cases hb2 : b.size ≤ 524288
  case neg =>
    go_wp2
    all_goals go_ret
    all_goals exact ⟨rfl, B1.out⟩
  by_cases hab : (a.toList == b.toList) = true ∧ (fA == fB) = false
  · obtain ⟨h1, h2⟩ := hab
    cases fA <;> cases fB
    case' false.false => cases h2
    case' true.true => cases h2
    all_goals go_wp2
    all_goals go_ret
    all_goals exact ⟨rfl, B1.out⟩
  · have hf : a = b → fA = fB := by
      intro h
      cases hh : (fA == fB) with
      | true => exact eq_of_beq hh
      | false => exact absurd ⟨by rw [h]; simp, hh⟩ hab
    have HF := idL_eq_iff (e := e) (K := K) hf
    have hs1 : a.size ≤ 1048576 := by omega
    have hs2 : b.size ≤ 1048576 := by omega
    obtain ⟨idA, hA⟩ : ∃ id : ByteArray, id = ⟨(idL fA e K a).toArray⟩ := ⟨_, rfl⟩
    obtain ⟨idB, hB⟩ : ∃ id : ByteArray, id = ⟨(idL fB e K b).toArray⟩ := ⟨_, rfl⟩
    rw [← hA, ← hB] at HF
    have ZA := fun w => z6_any fA e K a w hs1
    have ZB := fun w => z6_any fB e K b w hs2
    rw [← hA] at ZA
    rw [← hB] at ZB
    have SA := fun w => shaped10_any fA a idA e K w ha2 hA
    have SB := fun w => shaped10_any fB b idB e K w hb2 hB
    have HZA : Hid (∀ w : World, Calls Try.prog 6 #[.bool fA, .int .u8 (e.toNat : Int), .agg (tabV K), .string a] w fun r w' => r = .returned (.string idA) ∧ Below w.heap.size w w') := ZA
    have HZB : Hid (∀ w : World, Calls Try.prog 6 #[.bool fB, .int .u8 (e.toNat : Int), .agg (tabV K), .string b] w fun r w' => r = .returned (.string idB) ∧ Below w.heap.size w w') := ZB
    have HSA : Hid (∀ w : World, Calls Try.prog 10 #[.bool fA, .string a, .string idA, .int .u8 (e.toNat : Int), .agg (tabV K)] w fun r w' => r = .returned (.bool true) ∧ Below w.heap.size w w') := SA
    have HSB : Hid (∀ w : World, Calls Try.prog 10 #[.bool fB, .string b, .string idB, .int .u8 (e.toNat : Int), .agg (tabV K)] w fun r w' => r = .returned (.bool true) ∧ Below w.heap.size w w') := SB
    clear ZA ZB SA SB hA hB hs1 hs2
    have HAB : Hid (¬ ((a.toList == b.toList) = true ∧ (fA == fB) = false)) := hab
    clear hab hf
    cases he : (a.toList == b.toList)
    case' true =>
      have hff : (fA == fB) = true := by
        cases hh : (fA == fB) with
        | true => rfl
        | false => exact absurd ⟨he, hh⟩ HAB.out
      have hfn : (fA != fB) = false := by unfold bne; rw [hff]; rfl
    all_goals
      rw [he] at HF
      have hI := eq_of_beq HF
      clear HF HAB
      go_wp2_with (refine wpList_load_row rfl 22 _ rfl w.heap.size rfl 22 (tabV K) (0, 0) _ T1.out Try.underlying22 rfl (tab_info K) ?_)
      refine (HZA.out w1).mono ?_
      rintro r w2 ⟨rfl, hb2⟩
      have T2 : Hid (HasTab K w.heap.size w2) := T1.out.below hb2 ((Array.getElem?_eq_some_iff.1 T1.out).1)
      have B2 : Hid (Below w.heap.size w w2) := B1.out.trans (hb2.mono (by have := B1.out.size; omega))
      clear T1 B1 hb2
      go_wp2_with (refine wpList_load_row rfl 22 _ rfl w.heap.size rfl 22 (tabV K) (0, 0) _ T2.out Try.underlying22 rfl (tab_info K) ?_)
      refine (HZB.out w2).mono ?_
      rintro r w3 ⟨rfl, hb2⟩
      have T3 : Hid (HasTab K w.heap.size w3) := T2.out.below hb2 ((Array.getElem?_eq_some_iff.1 T2.out).1)
      have B3 : Hid (Below w.heap.size w w3) := B2.out.trans (hb2.mono (by have := B2.out.size; omega))
      clear T2 B2 hb2 HZA HZB
      go_wp2_with fail
      refine wp_load_row 22 (.tmp 11) rfl w.heap.size rfl 22 (tabV K) (0, 0) _ T3.out Try.underlying22 rfl (tab_info K) ?_
      go_wp2_with fail
      refine (HSA.out w3).mono ?_
      rintro r w4 ⟨rfl, hb2⟩
      have T4 : Hid (HasTab K w.heap.size w4) := T3.out.below hb2 ((Array.getElem?_eq_some_iff.1 T3.out).1)
      have B4 : Hid (Below w.heap.size w w4) := B3.out.trans (hb2.mono (by have := B3.out.size; omega))
      clear T3 B3 hb2 HSA
      go_wp2_with fail
      refine wp_load_row 22 (.tmp 11) rfl w.heap.size rfl 22 (tabV K) (0, 0) _ T4.out Try.underlying22 rfl (tab_info K) ?_
      go_wp2_with fail
      refine (HSB.out w4).mono ?_
      rintro r w5 ⟨rfl, hb2⟩
      have B5 : Hid (Below w.heap.size w w5) := B4.out.trans (hb2.mono (by have := B4.out.size; omega))
      clear T4 B4 hb2 HSB
      go_wp2
      go_ret
      exact ⟨by first | rfl | exact ret_true (by simp), B5.out⟩

end Go.Proofs.Qxb6605815a
