import Derived.Test.Qxb6605815aOpen
import Derived.Test.Qxb6605815aPlain
import Derived.Test.Qxb6605815aZ6
namespace Go.Proofs.Qxb6605815a
open Go.RowKit

set_option maxHeartbeats 1000000 in
theorem hex8_any (n : Nat) (hn : n < 16) (x : Int) (hx : x = ((hexD n).toNat : Int)) (w : World) :
    Calls Try.prog 8 #[.int .u8 x] w fun r w' => r = .returned (.tuple #[.int .u8 (n : Int), .bool true]) ∧ w' = w := by
  have h := hexD_toNat hn
  by_cases h10 : n < 10
  · rw [if_pos h10] at h
    obtain rfl : x = 48 + (n : Int) := by omega
    clear hx h
    go_enter Try.func8, Try.ntmps8
    go_wp2
    go_ret2
    exact ⟨by go_num, rfl⟩
  · rw [if_neg h10] at h
    obtain rfl : x = 55 + (n : Int) := by omega
    clear hx h
    go_enter Try.func8, Try.ntmps8
    go_wp2
    go_ret2
    exact ⟨by go_num, rfl⟩

theorem or_all : ∀ h l : Fin 16, bits .or .u8 ((h.val : Int) * 16) (l.val : Int) = (h.val : Int) * 16 + (l.val : Int) := by decide +kernel
theorem or_nib {h l : Nat} (hh : h < 16) (hl : l < 16) : bits .or .u8 ((h : Int) * 16) (l : Int) = (h : Int) * 16 + (l : Int) := or_all ⟨h, hh⟩ ⟨l, hl⟩

set_option maxHeartbeats 1000000 in
set_option maxRecDepth 1000000 in
theorem law3 (f : Bool) (e : UInt8) (K : Nat → Bool) (key : ByteArray) (w : World) (hk : key.size ≤ maxLen) :
    Calls Try.prog 3 #[.bool f, .int .u8 (e.toNat : Int), .agg (tabV K), .string key] w fun r w' => r = .returned (.bool true) ∧ Below w.heap.size w w' := by
  have hk' := hk
  unfold maxLen at hk'
  have HT : Hid (HasTab K w.heap.size (w.alloc (.cells (tabV K) 22))) := (MapKept.heap_alloc w (.cells (tabV K) 22)).1
  go_enter Try.func3, Try.ntmps3
  go_wp2_with (refine wpList_load_row rfl 22 _ rfl w.heap.size rfl 22 (tabV K) (0, 0) _ HT.out Try.underlying22 rfl (tab_info K) ?_)
  refine (bytes5_any f e.toNat K key hk _).mono ?_
  rintro r w1 ⟨⟨r, rfl⟩, hw1⟩
  have T1 : Hid (HasTab K w.heap.size w1) := by rw [hw1]; exact HT.out.alloc (by simp) _
  have B1 : Hid (Below w.heap.size w w1) := by rw [hw1]; exact ((Below.refl _ _).alloc (Nat.le_refl _) _).alloc (by simp) _
  clear hw1 HT
  by_cases hk2 : key.size ≤ 1048576
  · cases r
    · go_wp2
      go_ret
      exact ⟨rfl, B1.out⟩
    · go_wp2_with (refine wpList_load_row rfl 22 _ rfl w.heap.size rfl 22 (tabV K) (0, 0) _ T1.out Try.underlying22 rfl (tab_info K) ?_)
      refine (z6_any f e K key w1 hk2).mono ?_
      rintro r w2 ⟨hr, hb2⟩
      obtain ⟨id, hid⟩ : ∃ id : ByteArray, id = ⟨(idL f e K key).toArray⟩ := ⟨_, rfl⟩
      rw [← hid] at hr
      subst hr
      have T2 : Hid (HasTab K w.heap.size w2) := T1.out.below hb2 (by have := B1.out.size; have h := (Array.getElem?_eq_some_iff.1 T1.out).1; omega)
      have B2 : Hid (Below w.heap.size w w2) := B1.out.trans (hb2.mono (by have := B1.out.size; omega))
      have HI : Hid (id = ⟨(idL f e K key).toArray⟩) := hid
      clear hid T1 B1 hb2
      cases hp : (f && !hasP key pfxA) with
      | true =>
        have HI2 : Hid (id = key) := by
          show id = key
          rw [HI.out, idL_plain hp]
        clear HI
        cases f
        · cases hp
        · have hp1 : hasP key pfxA = false := by simpa using hp
          clear hp
          go_wp2_with fail
          refine (prefix7_any key pfxA _).mono ?_
          rw [hp1]
          clear hp1
          rintro r wx ⟨rfl, hwx⟩; replace hwx := hwx.symm; subst hwx
          go_wp2
          go_ret
          exact ⟨ret_true (by rw [HI2.out]; simp), B2.out⟩
      | false =>
        have HI2 : Hid (id = ⟨(pfxL ++ escL e K key.data.toList).toArray⟩) := by
          show id = _
          rw [HI.out, idL_esc hp]
        have HQ : Hid (hasP id pfxA = true) := by show hasP id pfxA = true; rw [HI2.out]; exact hasP_app _
        have hsz : id.size ≤ 3145745 := by
          rw [← posL_end e K key id HI2.out]
          have := soFar_len e K key key.size
          unfold posL; omega
        clear HI
        have hp2 : f = false ∨ hasP key pfxA = true := by cases f <;> simp at hp ⊢; exact hp
        clear hp
        cases f
        case' false =>
          clear hp2
          go_wp2_with fail
        case' true =>
          have hp1 : hasP key pfxA = true := by rcases hp2 with h | h; cases h; exact h
          clear hp2
          go_wp2_with fail
          refine (prefix7_any key pfxA _).mono ?_
          rw [hp1]
          clear hp1
          rintro r wx ⟨rfl, hwx⟩; replace hwx := hwx.symm; subst hwx
          go_wp2_with fail
        all_goals
          refine (prefix7_any id pfxA _).mono ?_
          rw [HQ.out]
          clear HQ
          rintro r wx ⟨rfl, hwx⟩; replace hwx := hwx.symm; subst hwx
          go_wp2_with fail
          go_loopw [11, 12] (fun a b wr => wr = w2 ∧ ∃ j p : Nat, j ≤ key.size ∧ a = .int .i64 j ∧ b = .int .i64 p ∧ p = posL e K key j) (fun a _ _ => key.size - (intOf a).toNat)
          case atStart => exact ⟨rfl, 0, 17, Nat.zero_le _, rfl, rfl, rfl⟩
          case round =>
            obtain ⟨hwr, j, p, hjk, rfl, rfl, hpp⟩ := hrel
            replace hwr := hwr.symm; subst hwr
            by_cases hj : j < key.size
            · cases hE : (key[j] == e || !K key[j].toNat) with
              | true =>
                obtain ⟨q1, q2, q3, q4, q5⟩ := id_esc3 e K key id HI2.out j p hj hpp hE
                have l0 : p < id.size := by clear q2; omega
                have l1 : p + 1 < id.size := by clear q2; omega
                have l2 : p + 2 < id.size := by clear q2; omega
                have b0 : (((id[p]'l0).toNat : Int) == (e.toNat : Int)) = true := by rw [q3]; simp
                have Q2 : Hid (posL e K key (j + 1) = p + 3) := q2
                have Q4 : Hid (id[p + 1]'l1 = hexD (key[j].toNat / 16)) := q4 _
                have Q5 : Hid (id[p + 2]'l2 = hexD (key[j].toNat % 16)) := q5 _
                have HE : Hid ((key[j] == e || !K key[j].toNat) = true) := hE
                clear q2 q3 q4 q5 hE hpp
                have hc256 : (key[j].toNat : Int) < 256 := by have := UInt8.toNat_lt key[j]; omega
                have ck := T2.out.cell (i := key[j].toNat) (UInt8.toNat_lt _)
                obtain ⟨h, hh⟩ : ∃ h, h = key[j].toNat / 16 := ⟨_, rfl⟩
                obtain ⟨l, hl⟩ : ∃ l, l = key[j].toNat % 16 := ⟨_, rfl⟩
                have hc : h < 16 := by omega
                have lc : l < 16 := by omega
                have hor : bits .or .u8 ((h : Int) * 16) (l : Int) = (key[j].toNat : Int) := by rw [or_nib hc lc]; omega
                have R4 : Hid (((id[p + 1]'l1).toNat : Int) = ((hexD h).toNat : Int)) := by show (_ : Int) = _; rw [Q4.out, hh]
                have R5 : Hid (((id[p + 2]'l2).toNat : Int) = ((hexD l).toNat : Int)) := by show (_ : Int) = _; rw [Q5.out, hl]
                clear hh hl Q4 Q5
                have hsplit : ((key[j].toNat : Int) == (e.toNat : Int)) = true ∨ ((key[j].toNat : Int) == (e.toNat : Int)) = false ∧ K key[j].toNat = false := by
                  have := HE.out
                  cases hb : ((key[j].toNat : Int) == (e.toNat : Int)) with
                  | true => exact Or.inl rfl
                  | false =>
                    refine Or.inr ⟨rfl, ?_⟩
                    have hne : (key[j] == e) = false := by
                      rw [beq_eq_false_iff_ne]; intro hh; rw [hh] at hb; simp at hb
                    rw [hne] at this
                    simpa using this
                clear HE
                rcases hsplit with hbe | ⟨hbe, hKf⟩
                case' inl => have hbn : ((key[j].toNat : Int) != (e.toNat : Int)) = false := by unfold bne; rw [hbe]; rfl
                case' inr =>
                  rw [hKf] at ck
                  have hbn : ((key[j].toNat : Int) != (e.toNat : Int)) = true := by unfold bne; rw [hbe]; rfl
                  clear hKf
                all_goals
                  go_wp2_with fail
                  refine (hex8_any h hc _ R4.out w2).mono ?_
                  rintro r wx ⟨rfl, hwx⟩; replace hwx := hwx.symm; subst hwx
                  go_wp2_with fail
                  refine (hex8_any l lc _ R5.out w2).mono ?_
                  rintro r wx ⟨rfl, hwx⟩; replace hwx := hwx.symm; subst hwx
                  go_wp2
                  go_roundw
                  case rel => exact ⟨trivial, j + 1, p + 3, by omega, by go_num, by go_num, Q2.out.symm⟩
                  case measure => simp [intOf]; omega
              | false =>
                obtain ⟨q1, q2, q3⟩ := id_raw1 e K key id HI2.out j p hj hpp hE
                have l0 : p < id.size := by clear q2; omega
                have b1 : ((id[p]'l0).toNat : Int) = (key[j].toNat : Int) := by rw [q3]
                have hne := raw_ne hE
                have hbe : ((key[j].toNat : Int) == (e.toNat : Int)) = false := by
                  rw [beq_eq_false_iff_ne]; intro hh; exact hne (UInt8.toNat_inj.1 (by omega))
                have hKt : K key[j].toNat = true := by
                  rw [Bool.or_eq_false_iff] at hE
                  simpa using hE.2
                have hc256 : (key[j].toNat : Int) < 256 := by have := UInt8.toNat_lt key[j]; omega
                have ck := T2.out.cell (i := key[j].toNat) (UInt8.toNat_lt _)
                rw [hKt] at ck
                have Q2 : Hid (posL e K key (j + 1) = p + 1) := q2
                clear q2 q3 hne hE hpp hKt
                go_wp2
                go_roundw
                case rel => exact ⟨trivial, j + 1, p + 1, by omega, by go_num, by go_num, Q2.out.symm⟩
                case measure => simp [intOf]; omega
            · have ej : j = key.size := by omega
              have : p = id.size := by rw [hpp, ej]; exact posL_end e K key id HI2.out
              subst ej
              clear hpp
              go_wp2
              go_ret
              exact ⟨rfl, B2.out⟩
  · cases r
    · go_wp2
      go_ret
      exact ⟨rfl, B1.out⟩
    · go_wp2
      go_ret
      exact ⟨rfl, B1.out⟩
end Go.Proofs.Qxb6605815a
