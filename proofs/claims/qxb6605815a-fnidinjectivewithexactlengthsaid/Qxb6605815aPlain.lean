import Derived.Test.Qxb6605815aEsc
namespace Go.Proofs.Qxb6605815a
open Go.RowKit

/-! ### The plain law -/
theorem escL_cons (e : UInt8) (K : Nat → Bool) (c : UInt8) (l : List UInt8) : escL e K (c :: l) = esc1 e K c ++ escL e K l := by simp [escL]
theorem esc1_esc {e : UInt8} {K : Nat → Bool} {c : UInt8} (h : (c == e || !K c.toNat) = true) : esc1 e K c = [e, hexD (c.toNat / 16), hexD (c.toNat % 16)] := by unfold esc1; rw [if_pos h]
theorem esc1_raw {e : UInt8} {K : Nat → Bool} {c : UInt8} (h : (c == e || !K c.toNat) = false) : esc1 e K c = [c] := by
  unfold esc1; rw [if_neg (by rw [h]; exact Bool.false_ne_true)]
theorem raw_ne {e : UInt8} {K : Nat → Bool} {c : UInt8} (h : (c == e || !K c.toNat) = false) : ¬ c = e := by
  rw [Bool.or_eq_false_iff] at h
  exact beq_eq_false_iff_ne.1 h.1

theorem hexD_val : ∀ n : Fin 16, (hexD n.val).toNat = if n.val < 10 then 48 + n.val else 55 + n.val := by decide
theorem hexD_toNat {n : Nat} (h : n < 16) : (hexD n).toNat = if n < 10 then 48 + n else 55 + n := hexD_val ⟨n, h⟩
theorem hexD_inj {n m : Nat} (hn : n < 16) (hm : m < 16) (h : hexD n = hexD m) : n = m := by
  have h1 := hexD_toNat hn
  have h2 := hexD_toNat hm
  rw [h] at h1
  rw [h1] at h2
  split at h2 <;> split at h2 <;> omega

theorem esc_nib {c d : UInt8} (h1 : hexD (c.toNat / 16) = hexD (d.toNat / 16)) (h2 : hexD (c.toNat % 16) = hexD (d.toNat % 16)) : c = d := by
  have hc := UInt8.toNat_lt c
  have hd := UInt8.toNat_lt d
  have e1 := hexD_inj (by omega) (by omega) h1
  have e2 := hexD_inj (by omega) (by omega) h2
  exact UInt8.toNat_inj.1 (by omega)

theorem escL_inj (e : UInt8) (K : Nat → Bool) : ∀ l m : List UInt8, escL e K l = escL e K m → l = m
  | [], [], _ => rfl
  | [], d :: m, h => by
    rw [escL_cons] at h
    cases hd : (d == e || !K d.toNat) with
    | true => rw [esc1_esc hd] at h; simp [escL] at h
    | false => rw [esc1_raw hd] at h; simp [escL] at h
  | c :: l, [], h => by
    rw [escL_cons] at h
    cases hc : (c == e || !K c.toNat) with
    | true => rw [esc1_esc hc] at h; simp [escL] at h
    | false => rw [esc1_raw hc] at h; simp [escL] at h
  | c :: l, d :: m, h => by
    rw [escL_cons, escL_cons] at h
    cases hc : (c == e || !K c.toNat) with
    | true =>
      cases hd : (d == e || !K d.toNat) with
      | true =>
        rw [esc1_esc hc, esc1_esc hd] at h
        simp only [List.cons_append, List.nil_append, List.cons.injEq, true_and] at h
        rw [esc_nib h.1 h.2.1, escL_inj e K l m h.2.2]
      | false =>
        rw [esc1_esc hc, esc1_raw hd] at h
        simp only [List.cons_append, List.nil_append, List.cons.injEq] at h
        exact absurd h.1.symm (raw_ne hd)
    | false =>
      cases hd : (d == e || !K d.toNat) with
      | true =>
        rw [esc1_raw hc, esc1_esc hd] at h
        simp only [List.cons_append, List.nil_append, List.cons.injEq] at h
        exact absurd h.1 (raw_ne hc)
      | false =>
        rw [esc1_raw hc, esc1_raw hd] at h
        simp only [List.cons_append, List.nil_append, List.cons.injEq] at h
        rw [h.1, escL_inj e K l m h.2]

/-- How many bytes of the list are escaped. -/
def cntL (e : UInt8) (K : Nat → Bool) (l : List UInt8) : Nat := l.countP fun c => c == e || !K c.toNat
theorem escL_length (e : UInt8) (K : Nat → Bool) : ∀ l : List UInt8, (escL e K l).length = l.length + 2 * cntL e K l
  | [] => rfl
  | c :: l => by
    rw [escL_cons, List.length_append, escL_length e K l]
    unfold cntL
    cases hc : (c == e || !K c.toNat) with
    | true => rw [esc1_esc hc, List.countP_cons_of_pos (by exact hc)]; simp; omega
    | false => rw [esc1_raw hc, List.countP_cons_of_neg (by rw [hc]; exact Bool.false_ne_true)]; simp; omega

theorem idL_plain {f : Bool} {e : UInt8} {K : Nat → Bool} {key : ByteArray} (h : (f && !hasP key pfxA) = true) : idL f e K key = key.data.toList := by unfold idL; rw [if_pos h]
theorem idL_esc {f : Bool} {e : UInt8} {K : Nat → Bool} {key : ByteArray} (h : (f && !hasP key pfxA) = false) : idL f e K key = pfxL ++ escL e K key.data.toList := by
  unfold idL; rw [if_neg (by rw [h]; exact Bool.false_ne_true)]

theorem hasP_app (l : List UInt8) : hasP ⟨(pfxL ++ l).toArray⟩ pfxA = true := by
  show List.isPrefixOf pfxL (pfxL ++ l) = true
  rw [List.isPrefixOf_iff_prefix]; exact List.prefix_append _ _

theorem no_pfx {f : Bool} {a : ByteArray} {l : List UInt8} (h : (f && !hasP a pfxA) = true) : ¬ a.data.toList = pfxL ++ l := by
  intro hh
  have : hasP a pfxA = true := by
    show List.isPrefixOf pfxL a.data.toList = true
    rw [hh, List.isPrefixOf_iff_prefix]; exact List.prefix_append _ _
  rw [this] at h
  simp at h

/-- Two keys get one id only where they are one key. -/
theorem idL_inj {fA fB : Bool} {e : UInt8} {K : Nat → Bool} {a b : ByteArray} (h : idL fA e K a = idL fB e K b) : a.data.toList = b.data.toList := by
  cases hA : (fA && !hasP a pfxA) with
  | true =>
    rw [idL_plain hA] at h
    cases hB : (fB && !hasP b pfxA) with
    | true => rw [idL_plain hB] at h; exact h
    | false => rw [idL_esc hB] at h; exact absurd h (no_pfx hA)
  | false =>
    rw [idL_esc hA] at h
    cases hB : (fB && !hasP b pfxA) with
    | true => rw [idL_plain hB] at h; exact absurd h.symm (no_pfx hB)
    | false =>
      rw [idL_esc hB] at h
      exact escL_inj e K _ _ (List.append_cancel_left h)

theorem idL_eq_iff {fA fB : Bool} {e : UInt8} {K : Nat → Bool} {a b : ByteArray} (hf : a = b → fA = fB) :
    (((⟨(idL fA e K a).toArray⟩ : ByteArray).toList == (⟨(idL fB e K b).toArray⟩ : ByteArray).toList) == (a.toList == b.toList)) = true := by
  rw [Lib.toList_data, Lib.toList_data, Lib.toList_data, Lib.toList_data]
  have e1 : ((⟨(idL fA e K a).toArray⟩ : ByteArray).data.toList) = idL fA e K a := rfl
  have e2 : ((⟨(idL fB e K b).toArray⟩ : ByteArray).data.toList) = idL fB e K b := rfl
  rw [e1, e2, beq_iff_eq, Bool.eq_iff_iff, beq_iff_eq, beq_iff_eq]
  refine ⟨idL_inj, fun h => ?_⟩
  have hab : a = b := by
    have : a.data = b.data := Array.toList_inj.1 h
    cases a; cases b; cases this; rfl
  rw [hf hab, hab]

/-! ### Where the j-th key byte's form stands in the id -/
def posL (e : UInt8) (K : Nat → Bool) (key : ByteArray) (j : Nat) : Nat := (soFar e K key j).length
theorem posL_zero (e : UInt8) (K : Nat → Bool) (key : ByteArray) : posL e K key 0 = 17 := rfl
theorem posL_succ (e : UInt8) (K : Nat → Bool) (key : ByteArray) (j : Nat) (h : j < key.size) : posL e K key (j + 1) = posL e K key j + (esc1 e K key[j]).length := by
  unfold posL; rw [soFar_succ e K key j h, List.length_append]

theorem id_parts (e : UInt8) (K : Nat → Bool) (key : ByteArray) (j : Nat) (h : j < key.size) :
    pfxL ++ escL e K key.data.toList = soFar e K key j ++ (esc1 e K key[j] ++ escL e K (key.data.toList.drop (j + 1))) := by
  unfold soFar
  have hl : key.data.toList = key.data.toList.take j ++ key[j] :: key.data.toList.drop (j + 1) := by
    have h' : j < key.data.toList.length := by rw [← Lib.size_eq]; exact h
    have := List.take_append_drop j key.data.toList
    rw [List.drop_eq_getElem_cons h'] at this
    exact this.symm
  have h2 : escL e K key.data.toList = escL e K (key.data.toList.take j) ++ (esc1 e K key[j] ++ escL e K (key.data.toList.drop (j + 1))) := by
    rw [← escL_cons]
    have : ∀ a b, escL e K (a ++ b) = escL e K a ++ escL e K b := fun a b => by simp [escL]
    rw [← this, ← hl]
  rw [h2, List.append_assoc]

theorem id_bytes (e : UInt8) (K : Nat → Bool) (key id : ByteArray) (hid : id = ⟨(pfxL ++ escL e K key.data.toList).toArray⟩) (j : Nat) (h : j < key.size) :
    posL e K key j + (esc1 e K key[j]).length ≤ id.size ∧ ∀ i (_ : i < (esc1 e K key[j]).length) (hb : posL e K key j + i < id.size), id[posL e K key j + i] = (esc1 e K key[j])[i] := by
  have hp := id_parts e K key j h
  subst hid
  constructor
  · show _ ≤ (pfxL ++ escL e K key.data.toList).toArray.size
    rw [hp]; simp [posL]
  · intro i hi hb
    have hb' : posL e K key j + i < (pfxL ++ escL e K key.data.toList).length := hb
    have h1 : ((⟨(pfxL ++ escL e K key.data.toList).toArray⟩ : ByteArray)[posL e K key j + i]) = (pfxL ++ escL e K key.data.toList)[posL e K key j + i]'hb' := rfl
    rw [h1]
    have h2 : (pfxL ++ escL e K key.data.toList)[posL e K key j + i]? = some ((esc1 e K key[j])[i]) := by
      rw [hp, List.getElem?_append_right (by unfold posL; omega)]
      rw [show posL e K key j + i - (soFar e K key j).length = i from by unfold posL; omega]
      rw [List.getElem?_append_left hi, List.getElem?_eq_getElem hi]
    rw [List.getElem?_eq_getElem hb'] at h2
    exact Option.some.inj h2

theorem posL_end (e : UInt8) (K : Nat → Bool) (key id : ByteArray) (hid : id = ⟨(pfxL ++ escL e K key.data.toList).toArray⟩) : posL e K key key.size = id.size := by
  subst hid
  unfold posL
  rw [soFar_all]; rfl

/-- A byte of the key that is escaped, as the id bears it. -/
theorem id_esc3 (e : UInt8) (K : Nat → Bool) (key id : ByteArray) (hid : id = ⟨(pfxL ++ escL e K key.data.toList).toArray⟩) (j p : Nat) (h : j < key.size) (hp : p = posL e K key j) (hc : (key[j] == e || !K key[j].toNat) = true) :
    p + 3 ≤ id.size ∧ posL e K key (j + 1) = p + 3 ∧ (∀ hb : p < id.size, id[p] = e) ∧ (∀ hb : p + 1 < id.size, id[p + 1] = hexD (key[j].toNat / 16)) ∧ (∀ hb : p + 2 < id.size, id[p + 2] = hexD (key[j].toNat % 16)) := by
  obtain ⟨h1, h2⟩ := id_bytes e K key id hid j h
  have h3 := posL_succ e K key j h
  have h5 := esc1_esc hc
  have h4 : (esc1 e K key[j]).length = 3 := by rw [h5]; rfl
  rw [h4] at h1 h3
  subst hp
  refine ⟨h1, h3, fun hb => ?_, fun hb => ?_, fun hb => ?_⟩
  · have : id[posL e K key j] = (esc1 e K key[j])[0] := h2 0 (by omega) hb
    rw [this]; simp [h5]
  · rw [h2 1 (by omega) hb]; simp [h5]
  · rw [h2 2 (by omega) hb]; simp [h5]

theorem id_raw1 (e : UInt8) (K : Nat → Bool) (key id : ByteArray) (hid : id = ⟨(pfxL ++ escL e K key.data.toList).toArray⟩) (j p : Nat) (h : j < key.size) (hp : p = posL e K key j) (hc : (key[j] == e || !K key[j].toNat) = false) :
    p + 1 ≤ id.size ∧ posL e K key (j + 1) = p + 1 ∧ (∀ hb : p < id.size, id[p] = key[j]) := by
  obtain ⟨h1, h2⟩ := id_bytes e K key id hid j h
  have h3 := posL_succ e K key j h
  have h5 := esc1_raw hc
  have h4 : (esc1 e K key[j]).length = 1 := by rw [h5]; rfl
  rw [h4] at h1 h3
  subst hp
  refine ⟨h1, h3, fun hb => ?_⟩
  have : id[posL e K key j] = (esc1 e K key[j])[0] := h2 0 (by omega) hb
  rw [this]; simp [h5]

end Go.Proofs.Qxb6605815a
