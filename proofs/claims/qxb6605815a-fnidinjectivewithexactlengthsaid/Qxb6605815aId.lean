import Derived.Test.Qxb6605815aEsc
namespace Go.Proofs.Qxb6605815a
open Go.RowKit

set_option maxHeartbeats 20000000 in
set_option maxRecDepth 1000000 in
theorem id_esc (f : Bool) (e : UInt8) (K : Nat → Bool) (key : ByteArray) (gf gk : Nat) (w : World) (hk : key.size ≤ 1048576) (hgf : gf < w.heap.size) (hgk : gk < w.heap.size) (hp : (f && !hasP key pfxA) = false)
    (hf : w.cell? ⟨gf, 0, none⟩ = some (.bool f)) (hT : HasTab K gk w) :
    Calls Try.prog 13 #[.agg #[.func (.func 11) #[] #[.pointer (some ⟨gf, 0, none⟩)], .int .u8 (e.toNat : Int), .func (.func 12) #[] #[.pointer (some ⟨gk, 0, none⟩)]], .string key] w fun r w' =>
      r = .returned (.string ⟨(idL f e K key).toArray⟩) ∧ Below w.heap.size w w' := by
  have HP : Hid ((f && !hasP key pfxA) = false) := hp
  have HT : Hid (HasTab K gk w) := hT
  have HF : Hid (w.cell? ⟨gf, 0, none⟩ = some (.bool f)) := hf
  clear hp hT hf
  go_enter Try.func13, Try.ntmps13
  go_wp2_with fail
  refine (fits_any key f gf _ (keep_cell hgf HF.out)).mono ?_
  rintro r w1 ⟨rfl, rfl⟩
  obtain ⟨bx, hbx⟩ : ∃ o, o = Obj.cells #[.func (.func 11) #[] #[.pointer (some ⟨gf, 0, none⟩)], .int .u8 (e.toNat : Int), .func (.func 12) #[] #[.pointer (some ⟨gk, 0, none⟩)]] 34 := ⟨_, rfl⟩
  have HG : Hid (Calls Try.prog 15 #[.pointer (some ⟨w.heap.size + 1, 0, none⟩), .int .i64 (17 + 3 * (key.size : Int))] ((w.alloc bx).alloc (.cells #[.pointer none, .slice none 0 0] 39)) fun r w' => r = .returned (.tuple #[]) ∧
      (Lib.BuilderAt 39 5 (w.heap.size + 1) (w.heap.size + 1) (.pointer (some ⟨w.heap.size + 1, 0, none⟩)) [] w' ∧ Below (w.heap.size + 1) ((w.alloc bx).alloc (.cells #[.pointer none, .slice none 0 0] 39)) w')) := by
    have := b_Grow (w.heap.size + 1) (w.heap.size + 1) (17 + 3 * key.size) ((w.alloc bx).alloc (.cells #[.pointer none, .slice none 0 0] 39)) (Nat.le_refl _)
      (by have := (MapKept.heap_alloc (w.alloc bx) (.cells #[.pointer none, .slice none 0 0] 39)).1; simpa using this) (by simp) (by omega)
    rwa [show ((17 + 3 * key.size : Nat) : Int) = 17 + 3 * (key.size : Int) from by omega] at this
  have HX1 : Hid ((w.alloc bx).cell? ⟨w.heap.size, 1, none⟩ = some (.int .u8 (e.toNat : Int))) := by rw [hbx]; exact World.cell?_alloc_new w _ _ 1
  have HX2 : Hid ((w.alloc bx).cell? ⟨w.heap.size, 2, none⟩ = some (.func (.func 12) #[] #[.pointer (some ⟨gk, 0, none⟩)])) := by rw [hbx]; exact World.cell?_alloc_new w _ _ 2
  rw [← hbx]
  clear hbx
  obtain ⟨W1, hW1⟩ : ∃ W, W = (w.alloc bx).alloc (.cells #[.pointer none, .slice none 0 0] 39) := ⟨_, rfl⟩
  have X1 : Hid (W1.cell? ⟨w.heap.size, 1, none⟩ = some (.int .u8 (e.toNat : Int))) := by rw [hW1]; exact keep_cell (by simp) HX1.out
  have X2 : Hid (W1.cell? ⟨w.heap.size, 2, none⟩ = some (.func (.func 12) #[] #[.pointer (some ⟨gk, 0, none⟩)])) := by rw [hW1]; exact keep_cell (by simp) HX2.out
  have XT : Hid (HasTab K gk W1) := by rw [hW1]; exact (HT.out.alloc hgk _).alloc (by simp; omega) _
  have XB : Hid (Below w.heap.size w W1) := by rw [hW1]; exact ((Below.refl _ _).alloc (Nat.le_refl _) _).alloc (by simp) _
  have XZ : w.heap.size + 1 < W1.heap.size := by rw [hW1]; simp
  have XI : Hid (idL f e K key = pfxL ++ escL e K key.data.toList) := by show idL f e K key = _; unfold idL; rw [HP.out]; rfl
  have HW1 : Hid (W1 = (w.alloc bx).alloc (.cells #[.pointer none, .slice none 0 0] 39)) := hW1
  clear hW1 HX1 HX2 HT HF
  have hp2 : f = false ∨ hasP key pfxA = true := by have := HP.out; cases f <;> simp at this ⊢; exact this
  cases f
  case' false =>
    go_wp2_with fail
  case' true =>
    have hp1 : hasP key pfxA = true := by rcases hp2 with h | h; cases h; exact h
    go_wp2_with fail
    refine (prefix14_any key pfxA _).mono ?_
    rw [hp1]
    clear hp1
    rintro r w1 ⟨rfl, rfl⟩
    go_wp2_with fail
  all_goals
    refine HG.out.mono ?_
    rw [← HW1.out]
    clear HG HW1 HP hp2
    rintro r w2 ⟨rfl, hbA, hbel⟩
    have BA2 : Hid (Lib.BuilderAt 39 5 (w.heap.size + 1) (w.heap.size + 1) (.pointer (some ⟨w.heap.size + 1, 0, none⟩)) [] w2) := hbA
    have BE2 : Hid (Below (w.heap.size + 1) W1 w2) := hbel
    clear hbA hbel
    go_wp2_with fail
    refine (b_WriteString (w.heap.size + 1) (w.heap.size + 1) [] pfxA w2 (Or.inr BA2.out) (by show 0 + 17 ≤ _; omega) (by have := BE2.out.size; omega)).mono ?_
    rintro r w3 ⟨rfl, hbA, hbel⟩
    have BA3 : Hid (Lib.BuilderAt 39 5 (w.heap.size + 1) (w.heap.size + 1) (.pointer (some ⟨w.heap.size + 1, 0, none⟩)) (Lib.byteCells (soFar e K key 0)) w3) := hbA
    have BE3 : Hid (Below (w.heap.size + 1) W1 w3) := BE2.out.trans hbel
    clear hbA hbel BA2 BE2
    go_wp2
    go_loopw [6] (fun i wr => ∃ k : Nat, k ≤ key.size ∧ i = .int .i64 k ∧ Lib.BuilderAt 39 5 (w.heap.size + 1) (w.heap.size + 1) (.pointer (some ⟨w.heap.size + 1, 0, none⟩)) (Lib.byteCells (soFar e K key k)) wr ∧ Below (w.heap.size + 1) W1 wr)
      (fun i _ => key.size - (intOf i).toNat)
    case atStart => exact ⟨0, Nat.zero_le _, rfl, BA3.out, BE3.out⟩
    case round =>
      clear BA3 BE3
      obtain ⟨k, hkk, rfl, hbA, hbel⟩ := hrel
      have BA : Hid (Lib.BuilderAt 39 5 (w.heap.size + 1) (w.heap.size + 1) (.pointer (some ⟨w.heap.size + 1, 0, none⟩)) (Lib.byteCells (soFar e K key k)) wr) := hbA
      have BE : Hid (Below (w.heap.size + 1) W1 wr) := hbel
      clear hbA hbel
      by_cases hlt : k < key.size
      · have c1 : wr.cell? ⟨w.heap.size, 1, none⟩ = some (.int .u8 (e.toNat : Int)) := by rw [BE.out.cell (p := ⟨w.heap.size, 1, none⟩) (Nat.lt_succ_self _)]; exact X1.out
        have c2 : wr.cell? ⟨w.heap.size, 2, none⟩ = some (.func (.func 12) #[] #[.pointer (some ⟨gk, 0, none⟩)]) := by rw [BE.out.cell (p := ⟨w.heap.size, 2, none⟩) (Nat.lt_succ_self _)]; exact X2.out
        have hc256 : (key[k].toNat : Int) < 256 := by have := UInt8.toNat_lt key[k]; omega
        have hd1 : (key[k].toNat : Int) / 16 < 16 := by omega
        have hd2 : (key[k].toNat : Int) % 16 < 16 := by omega
        have hd3 : bits .and .u8 (key[k].toNat : Int) 15 = (key[k].toNat : Int) % 16 := u8_and15 _ (by omega) (by omega)
        have hlen := soFar_len e K key k
        have HL : Hid ((Lib.byteCells (soFar e K key k)).length + 3 ≤ 140737488355328) := by show _ ≤ _; rw [Lib.byteCells_length]; omega
        have hbz : w.heap.size + 1 ≤ wr.heap.size := by have := BE.out.size; omega
        have HS := soFar_succ e K key k hlt
        have HSS : Hid (soFar e K key (k + 1) = soFar e K key k ++ esc1 e K key[k]) := HS
        clear HS hlen
        by_cases hbe : ((key[k].toNat : Int) == (e.toNat : Int)) = true
        · have HE : Hid ((key[k] == e || !K key[k].toNat) = true) := by
            have : key[k] = e := UInt8.toNat_inj.1 (by have := eq_of_beq hbe; omega)
            show (_ || _) = true; rw [this]; simp
          go_wp2_with fail
          go_region_with (go_at_call 17; refine (write3_any (w.heap.size + 1) _ _ _ _ wr BA.out HL.out hbz).mono ?_; rintro r w' ⟨rfl, hw⟩)
          all_goals go_wp2
          all_goals go_roundw
          all_goals first
            | exact ⟨k + 1, by omega, by go_num, by rw [HSS.out, byteCells_app, ← esc_cells e K key[k] HE.out (by show _ < 16; omega) (by show _ < 16; omega)]; exact hw.out.1, BE.out.trans hw.out.2⟩
            | (simp [intOf]; omega)
        · have hbe2 : ((key[k].toNat : Int) == (e.toNat : Int)) = false := by simpa using hbe
          have hne : ¬ key[k] = e := fun h => by rw [h] at hbe2; simp at hbe2
          have HNE : Hid ((key[k] == e) = false) := by show _ = false; rw [beq_eq_false_iff_ne]; exact hne
          clear hbe hne
          cases hK : K key[k].toNat with
          | false =>
            have HE : Hid ((key[k] == e || !K key[k].toNat) = true) := by show (_ || _) = true; rw [hK]; simp
            go_wp2_with (go_at_call 12; refine (kept_any key[k] K gk wr (XT.out.below BE.out (by omega))).mono ?_; rintro r wx ⟨rfl, hwx⟩; replace hwx := hwx.symm; subst hwx)
            go_region_with (go_at_call 17; refine (write3_any (w.heap.size + 1) _ _ _ _ wr BA.out HL.out hbz).mono ?_; rintro r w' ⟨rfl, hw⟩)
            all_goals go_wp2
            all_goals go_roundw
            all_goals first
              | exact ⟨k + 1, by omega, by go_num, by rw [HSS.out, byteCells_app, ← esc_cells e K key[k] HE.out (by show _ < 16; omega) (by show _ < 16; omega)]; exact hw.out.1, BE.out.trans hw.out.2⟩
              | (simp [intOf]; omega)
          | true =>
            have HE : Hid ((key[k] == e || !K key[k].toNat) = false) := by show (_ || _) = false; rw [hK, HNE.out]; rfl
            go_wp2_with (go_at_call 12; refine (kept_any key[k] K gk wr (XT.out.below BE.out (by omega))).mono ?_; rintro r wx ⟨rfl, hwx⟩; replace hwx := hwx.symm; subst hwx)
            refine (b_WriteByte (w.heap.size + 1) (w.heap.size + 1) (Lib.byteCells (soFar e K key k)) (key[k].toNat : Int) wr (Or.inr BA.out) (by have := HL.out; omega) hbz).mono ?_
            rintro r w' ⟨rfl, hw1, hw2⟩
            have HW1 : Hid (Lib.BuilderAt 39 5 (w.heap.size + 1) (w.heap.size + 1) (.pointer (some ⟨w.heap.size + 1, 0, none⟩)) (Lib.byteCells (soFar e K key (k + 1))) w') := by
              rw [HSS.out, byteCells_app]
              have : esc1 e K key[k] = [key[k]] := by unfold esc1; rw [HE.out]; rfl
              rw [this]; exact hw1
            have HW2 : Hid (Below (w.heap.size + 1) W1 w') := BE.out.trans hw2
            clear hw1 hw2
            go_wp2
            go_roundw
            case rel => exact ⟨k + 1, by omega, by go_num, HW1.out, HW2.out⟩
            case measure => simp [intOf]; omega
      · go_wp2_with fail
        refine (b_String (w.heap.size + 1) (w.heap.size + 1) (soFar e K key k) wr (Or.inr BA.out) (by have := BE.out.size; omega)).mono ?_
        rintro r w5 ⟨rfl, hbel⟩
        go_wp2
        go_ret
        have ek : k = key.size := by omega
        refine ⟨ret_str (by rw [XI.out, ek, soFar_all]), XB.out.trans ((BE.out.trans hbel).mono (by omega))⟩

theorem id_any (f : Bool) (e : UInt8) (K : Nat → Bool) (key : ByteArray) (gf gk : Nat) (w : World) (hk : key.size ≤ 1048576) (hgf : gf < w.heap.size) (hgk : gk < w.heap.size)
    (hf : w.cell? ⟨gf, 0, none⟩ = some (.bool f)) (hT : HasTab K gk w) :
    Calls Try.prog 13 #[.agg #[.func (.func 11) #[] #[.pointer (some ⟨gf, 0, none⟩)], .int .u8 (e.toNat : Int), .func (.func 12) #[] #[.pointer (some ⟨gk, 0, none⟩)]], .string key] w fun r w' =>
      r = .returned (.string ⟨(idL f e K key).toArray⟩) ∧ Below w.heap.size w w' := by
  cases hp : (f && !hasP key pfxA) with
  | true =>
    cases f with
    | false => cases hp
    | true => exact id_plain e K key gf gk w hgf (by simpa using hp) hf
  | false => exact id_esc f e K key gf gk w hk hgf hgk hp hf hT

end Go.Proofs.Qxb6605815a
