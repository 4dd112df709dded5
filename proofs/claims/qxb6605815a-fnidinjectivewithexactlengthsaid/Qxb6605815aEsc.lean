import Derived.Test.Qxb6605815aRows
import Derived.Test.Qxb6605815aShelf
import Derived.WalkKit
import Derived.WalkSpells
import Derived.WalkLawsBesides
import Derived.Laws.EntriesVeiled
import Derived.Laws.Rows
import Derived.Deep.QuietTactic
import Derived.BigQuiet
namespace Go.Proofs.Qxb6605815a
open Go.RowKit

/-- The table of 256 bools. -/
def tabV (K : Nat → Bool) : Array Value := (Array.range 256).map fun i => .bool (K i)

theorem tabV_size (K : Nat → Bool) : (tabV K).size = 256 := by simp [tabV]
theorem tabV_get (K : Nat → Bool) {i : Nat} (h : i < 256) : (tabV K)[i]? = some (.bool (K i)) := by simp [tabV, h]

/-- The table lies in block g. -/
def HasTab (K : Nat → Bool) (g : Nat) (w : World) : Prop := w.heap[g]? = some (.cells (tabV K) 22 (0, 0))

theorem HasTab.cell {K : Nat → Bool} {g : Nat} {w : World} (h : HasTab K g w) {i : Nat} (hi : i < 256) : w.cell? ⟨g, i, none⟩ = some (.bool (K i)) := by
  rw [Lib.cell_of_heap h, tabV_get K hi]

set_option maxHeartbeats 400000 in
theorem bytes5_any (f : Bool) (e : Int) (K : Nat → Bool) (s : ByteArray) (hs : s.size ≤ maxLen) (w : World) :
    Calls Try.prog 5 #[.bool f, .int .u8 e, .agg (tabV K), .string s] w fun e w' => (∃ r : Bool, e = .returned (.bool r)) ∧ w' = w.alloc (.cells (tabV K) 22) := by
  unfold maxLen at hs
  go_enter Try.func5, Try.ntmps5
  go_wp2
  all_goals go_ret
  all_goals exact ⟨⟨_, rfl⟩, rfl⟩

set_option maxHeartbeats 400000 in
theorem fits_any (s : ByteArray) (f : Bool) (g : Nat) (w : World) (hc : w.cell? ⟨g, 0, none⟩ = some (.bool f)) :
    Calls Try.prog 11 #[.string s, .pointer (some ⟨g, 0, none⟩)] w fun e w' => e = .returned (.bool f) ∧ w' = w := by
  go_enter Try.func11, Try.ntmps11
  go_wp2
  go_ret
  exact ⟨rfl, rfl⟩

set_option maxHeartbeats 400000 in
theorem kept_any (c : UInt8) (K : Nat → Bool) (g : Nat) (w : World) (hc : HasTab K g w) :
    Calls Try.prog 12 #[.int .u8 (c.toNat : Int), .pointer (some ⟨g, 0, none⟩)] w fun e w' => e = .returned (.bool (K c.toNat)) ∧ w' = w := by
  have c1 := hc.cell (i := c.toNat) (UInt8.toNat_lt c)
  have h256 : (c.toNat : Int) < 256 := by have := UInt8.toNat_lt c; omega
  clear hc
  go_enter Try.func12, Try.ntmps12
  go_wp2
  go_ret
  exact ⟨rfl, rfl⟩

/-! ### Prefixes -/
def hasP (s p : ByteArray) : Bool := Lib.hasPrefix s.data.toList p.data.toList

theorem hasP_long {s p : ByteArray} (h : p.size ≤ s.size) : ((s.extract 0 p.size).toList == p.toList) = hasP s p := by
  unfold hasP
  rw [← Lib.hasPrefix_raw, decide_eq_true h, Bool.true_and]
theorem hasP_short {s p : ByteArray} (h : ¬ p.size ≤ s.size) : false = hasP s p := by
  unfold hasP
  rw [← Lib.hasPrefix_raw, decide_eq_false h]; rfl

theorem ret_bool {a b : Bool} (h : a = b) : Ending.returned (.bool a) = .returned (.bool b) := by rw [h]

set_option maxHeartbeats 400000 in
theorem prefix7_any (s p : ByteArray) (w : World) :
    Calls Try.prog 7 #[.string s, .string p] w fun e w' => e = .returned (.bool (hasP s p)) ∧ w' = w := by
  by_cases h : p.size ≤ s.size
  · go_enter Try.func7, Try.ntmps7
    go_wp2
    go_ret
    exact ⟨ret_bool (hasP_long h), rfl⟩
  · go_enter Try.func7, Try.ntmps7
    go_wp2
    go_ret
    exact ⟨ret_bool (hasP_short h), rfl⟩

set_option maxHeartbeats 400000 in
theorem prefix14_any (s p : ByteArray) (w : World) :
    Calls Try.prog 14 #[.string s, .string p] w fun e w' => e = .returned (.bool (hasP s p)) ∧ w' = w := by
  by_cases h : p.size ≤ s.size
  · go_enter Try.func14, Try.ntmps14
    go_wp2
    go_ret
    exact ⟨ret_bool (hasP_long h), rfl⟩
  · go_enter Try.func14, Try.ntmps14
    go_wp2
    go_ret
    exact ⟨ret_bool (hasP_short h), rfl⟩

/-! ### The id -/
def pfxA : ByteArray := ⟨#[111, 110, 99, 101, 111, 118, 101, 114, 45, 101, 115, 99, 97, 112, 101, 100, 58]⟩
def hexA : ByteArray := ⟨#[48, 49, 50, 51, 52, 53, 54, 55, 56, 57, 65, 66, 67, 68, 69, 70]⟩
def pfxL : List UInt8 := pfxA.data.toList
def hexD (n : Nat) : UInt8 := hexA.data.toList.getD n 0

/-- One byte, escaped where it must be. -/
def esc1 (e : UInt8) (K : Nat → Bool) (c : UInt8) : List UInt8 := if c == e || !K c.toNat then [e, hexD (c.toNat / 16), hexD (c.toNat % 16)] else [c]
def escL (e : UInt8) (K : Nat → Bool) (l : List UInt8) : List UInt8 := l.flatMap (esc1 e K)
def idL (f : Bool) (e : UInt8) (K : Nat → Bool) (key : ByteArray) : List UInt8 := if f && !hasP key pfxA then key.data.toList else pfxL ++ escL e K key.data.toList

theorem keep_cell {w : World} {o : Obj} {a : Addr} {v : Value} (hb : a.block < w.heap.size) (h : w.cell? a = some v) : (w.alloc o).cell? a = some v := by
  rw [World.cell?_alloc_lt w o a hb]; exact h
theorem HasTab.alloc {K : Nat → Bool} {g : Nat} {w : World} (h : HasTab K g w) (hg : g < w.heap.size) (o : Obj) : HasTab K g (w.alloc o) := by
  unfold HasTab; rw [Below.heap_alloc w o g hg]; exact h
theorem HasTab.below {K : Nat → Bool} {g B : Nat} {w w' : World} (h : HasTab K g w) (hb : Below B w w') (hg : g < B) : HasTab K g w' := by
  unfold HasTab; rw [hb.block g hg]; exact h
theorem escL_snoc (e : UInt8) (K : Nat → Bool) (l : List UInt8) (c : UInt8) : escL e K (l ++ [c]) = escL e K l ++ esc1 e K c := by unfold escL; simp
theorem esc1_len (e : UInt8) (K : Nat → Bool) (c : UInt8) : (esc1 e K c).length ≤ 3 := by unfold esc1; split <;> simp
theorem escL_len (e : UInt8) (K : Nat → Bool) : ∀ l : List UInt8, (escL e K l).length ≤ 3 * l.length
  | [] => by simp [escL]
  | c :: l => by
    have h1 := escL_len e K l
    have h2 := esc1_len e K c
    have e1 : escL e K (c :: l) = esc1 e K c ++ escL e K l := by simp [escL]
    rw [e1, List.length_append, List.length_cons]; omega
theorem byteCells_app (l m : List UInt8) : Lib.byteCells (l ++ m) = Lib.byteCells l ++ Lib.byteCells m := by simp [Lib.byteCells]
theorem take_key (s : ByteArray) (k : Nat) (h : k < s.size) : s.data.toList.take (k + 1) = s.data.toList.take k ++ [s[k]] := by
  rw [List.take_succ_eq_append_getElem (by simpa using h)]; rfl
/-- What the builder holds behind k bytes. -/
def soFar (e : UInt8) (K : Nat → Bool) (key : ByteArray) (k : Nat) : List UInt8 := pfxL ++ escL e K (key.data.toList.take k)
theorem soFar_len (e : UInt8) (K : Nat → Bool) (key : ByteArray) (k : Nat) : (soFar e K key k).length ≤ 17 + 3 * key.size := by
  unfold soFar
  have h := escL_len e K (key.data.toList.take k)
  have h2 : (key.data.toList.take k).length ≤ key.size := by rw [Lib.size_eq]; exact List.length_take_le' _ _
  have h3 : pfxL.length = 17 := rfl
  rw [List.length_append]; omega
theorem soFar_succ (e : UInt8) (K : Nat → Bool) (key : ByteArray) (k : Nat) (h : k < key.size) : soFar e K key (k + 1) = soFar e K key k ++ esc1 e K key[k] := by
  unfold soFar; rw [take_key key k h, escL_snoc, List.append_assoc]
theorem soFar_all (e : UInt8) (K : Nat → Bool) (key : ByteArray) : soFar e K key key.size = pfxL ++ escL e K key.data.toList := by
  unfold soFar; rw [List.take_of_length_le (by rw [← Lib.size_eq]; exact Nat.le_refl _)]

theorem builder_alloc {B b : Nat} {p : Value} {bs : List Value} {w : World} (h : Lib.BuilderAt 39 5 B b p bs w) (o : Obj) : Lib.BuilderAt 39 5 B b p bs (w.alloc o) := by
  obtain ⟨hB, v, hbk, hown, hne⟩ := h
  have hlt : b < w.heap.size := (Array.getElem?_eq_some_iff.1 hbk).1
  exact ⟨hB, v, by rw [Below.heap_alloc w o b hlt]; exact hbk, hown.alloc o, hne⟩
theorem builder_drew {B b : Nat} {p : Value} {bs : List Value} {w : World} (h : Lib.BuilderAt 39 5 B b p bs w) : Lib.BuilderAt 39 5 B b p bs w.drew := h

/-- Three bytes, laid into a new array, written. -/
theorem write3_any (bb : Nat) (bs : List Value) (x0 x1 x2 : Int) (wr : World) (hA : Lib.BuilderAt 39 5 bb bb (.pointer (some ⟨bb, 0, none⟩)) bs wr) (hlen : bs.length + 3 ≤ 140737488355328) (hBw : bb ≤ wr.heap.size) :
    Calls Try.prog 17 #[.pointer (some ⟨bb, 0, none⟩), .slice (some ⟨wr.heap.size, 0, none⟩) 3 3] ((wr.alloc (.cells #[.int .u8 x0, .int .u8 x1, .int .u8 x2] 5)).drew) fun r w' =>
      r = .returned (.tuple #[.int .i64 3, .nilIface]) ∧ Hid (Lib.BuilderAt 39 5 bb bb (.pointer (some ⟨bb, 0, none⟩)) (bs ++ [.int .u8 x0, .int .u8 x1, .int .u8 x2]) w' ∧ Below bb wr w') := by
  refine (b_Write bb bb bs ⟨wr.heap.size, 0, none⟩ 3 3 [.int .u8 x0, .int .u8 x1, .int .u8 x2] _ (builder_drew (builder_alloc hA _)) rfl ?_ ?_ hlen ?_).mono ?_
  · intro j u hj
    have hc : ∀ i, (wr.alloc (.cells #[.int .u8 x0, .int .u8 x1, .int .u8 x2] 5)).drew.cell? ⟨wr.heap.size, i, none⟩ = (#[.int .u8 x0, .int .u8 x1, .int .u8 x2] : Array Value)[i]? := fun i => World.cell?_alloc_new wr _ _ i
    have hadd : (⟨wr.heap.size, 0, none⟩ : Addr).add j = ⟨wr.heap.size, j, none⟩ := by unfold Addr.add; split <;> simp_all
    rw [hadd, hc]
    simpa using hj
  · intro u hu
    simp at hu
    rcases hu with rfl | rfl | rfl <;> rfl
  · show bb ≤ (wr.alloc _).heap.size
    simp; omega
  · rintro r w' ⟨h1, h2, h3⟩
    exact ⟨h1, h2, (((Below.refl bb wr).alloc hBw _).drew).trans h3⟩

theorem hex_at (i : Int) (hb : i.toNat < hexA.size) : ((hexA[i.toNat]'hb).toNat : Int) = ((hexD i.toNat).toNat : Int) := by
  unfold hexD
  have hb' : i.toNat < hexA.data.toList.length := by rw [← Lib.size_eq]; exact hb
  rw [List.getD_eq_getElem?_getD, List.getElem?_eq_getElem hb', Option.getD_some]
  rfl

/-- The three bytes are those of the escape. -/
theorem esc_cells (e : UInt8) (K : Nat → Bool) (c : UInt8) (h : (c == e || !K c.toNat) = true) (hb1 : ((c.toNat : Int) / 16).toNat < hexA.size) (hb2 : ((c.toNat : Int) % 16).toNat < hexA.size) :
    [Value.int .u8 (e.toNat : Int), .int .u8 ((hexA[((c.toNat : Int) / 16).toNat]'hb1).toNat : Int), .int .u8 ((hexA[((c.toNat : Int) % 16).toNat]'hb2).toNat : Int)] = Lib.byteCells (esc1 e K c) := by
  rw [hex_at, hex_at]
  unfold esc1
  rw [if_pos h]
  rw [show ((c.toNat : Int) / 16).toNat = c.toNat / 16 by omega, show ((c.toNat : Int) % 16).toNat = c.toNat % 16 by omega]
  rfl

theorem ret_str {a b : ByteArray} (h : a = b) : Ending.returned (.string a) = .returned (.string b) := by rw [h]

set_option maxHeartbeats 400000 in
theorem id_plain (e : UInt8) (K : Nat → Bool) (key : ByteArray) (gf gk : Nat) (w : World) (hgf : gf < w.heap.size) (hp : hasP key pfxA = false)
    (hf : w.cell? ⟨gf, 0, none⟩ = some (.bool true)) :
    Calls Try.prog 13 #[.agg #[.func (.func 11) #[] #[.pointer (some ⟨gf, 0, none⟩)], .int .u8 (e.toNat : Int), .func (.func 12) #[] #[.pointer (some ⟨gk, 0, none⟩)]], .string key] w fun r w' =>
      r = .returned (.string ⟨(idL true e K key).toArray⟩) ∧ Below w.heap.size w w' := by
  have HP : Hid (hasP key pfxA = false) := hp
  clear hp
  go_enter Try.func13, Try.ntmps13
  go_wp2_with fail
  refine (fits_any key true gf _ (keep_cell hgf hf)).mono ?_
  rintro r w1 ⟨rfl, rfl⟩
  go_wp2_with fail
  refine (prefix14_any key pfxA _).mono ?_
  rw [HP.out]
  rintro r w1 ⟨rfl, rfl⟩
  go_wp2
  go_ret
  refine ⟨ret_str ?_, (Below.refl _ _).alloc (Nat.le_refl _) _⟩
  unfold idL
  rw [HP.out]
  rfl

end Go.Proofs.Qxb6605815a
