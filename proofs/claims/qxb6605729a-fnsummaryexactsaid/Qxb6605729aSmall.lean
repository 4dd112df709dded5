import Derived.Test.Qxb6605729aArith
import Derived.WalkKit
import Derived.WalkSpells
import Derived.WalkLawsBesides
import Derived.Laws.FloatArith
import Derived.Deep.QuietTactic
import Derived.BigQuiet
import Derived.Deep.OwnRows
import Derived.Sort.Grow
namespace Go.Proofs.Qxb6605729a
open Go.RowKit
attribute [local go_sem] run_store_float

/-- The NaN that the tape gives. -/
def nanDraw (w : World) (x y : Nat) : Nat := Question.cut (.nanBits .f64 x y) (w.tape w.drawn (.nanBits .f64 x y))

theorem run_float_nan {P : Program} (op : BinOp) (hop : op = .add ∨ op = .quo) (t : TypeId) (x y : Nat) (h : floatBits op .f64 x y = none) (w : World) :
    (binOp op t (.float .f64 x) (.float .f64 y)).run P w = .ok (.float .f64 (nanDraw w x y)) w.drew := by
  rcases hop with rfl | rfl
  · have h' : FloatKind.f64.format.add x y = none := h
    simp [binOp, Op.floatArith, h']
    rfl
  · have h' : FloatKind.f64.format.div x y = none := h
    simp [binOp, Op.floatArith, h']
    rfl

theorem key_nanDraw (w : World) (x y : Nat) : keyF (nanDraw w x y) = -9223372036854775808 := by
  refine (nan_iff _).1 ?_
  unfold nanDraw
  generalize w.tape w.drawn (.nanBits .f64 x y) = t
  show 9218868437227405312 < ((t % 2) * 9223372036854775808 + 9218868437227405312 + 1 + (t / 2) % 4503599627370495) % 9223372036854775808
  have hz : (t / 2) % 4503599627370495 < 4503599627370495 := Nat.mod_lt _ (by decide)
  generalize (t / 2) % 4503599627370495 = z at hz ⊢
  rw [show (t % 2) * 9223372036854775808 + 9218868437227405312 + 1 + z = (9218868437227405312 + 1 + z) + 9223372036854775808 * (t % 2) by omega, Nat.add_mul_mod_self_left, Nat.mod_eq_of_lt (by omega)]
  omega

set_option maxHeartbeats 400000 in
theorem nan_any (w : World) : Calls Try.prog 16 #[] w fun e w' => (∃ r, e = .returned (.float .f64 r) ∧ keyF r = -9223372036854775808) ∧ w' = w.drew := by
  have h0 := fun w => run_float_nan (P := Try.prog) .quo (Or.inr rfl) 25 0 0 (by rfl) w
  go_enter Try.func16, Try.ntmps16
  go_wp2
  go_ret
  exact ⟨⟨_, rfl, key_nanDraw _ _ _⟩, rfl⟩

set_option maxHeartbeats 400000 in
theorem bytes5_any (a : Option Addr) (n c : Nat) (hn : n ≤ maxLen) (w : World) :
    Calls Try.prog 5 #[.slice a n c] w fun e w' => (∃ r : Bool, e = .returned (.bool r)) ∧ w' = w := by
  unfold maxLen at hn
  go_enter Try.func5, Try.ntmps5
  go_wp2
  all_goals go_ret
  all_goals exact ⟨⟨_, rfl⟩, rfl⟩

set_option maxHeartbeats 400000 in
theorem bytes12_any (a : Option Addr) (n c : Nat) (hn : n ≤ maxLen) (w : World) :
    Calls Try.prog 12 #[.slice a n c] w fun e w' => (∃ r : Bool, e = .returned (.bool r)) ∧ w' = w := by
  unfold maxLen at hn
  go_enter Try.func12, Try.ntmps12
  go_wp2
  all_goals go_ret
  all_goals exact ⟨⟨_, rfl⟩, rfl⟩

/-- zzFeq: one key. -/
def feqF (x y : Nat) : Bool := decide (keyF x = keyF y)

theorem feq_all (x y : Nat) : (FloatKind.f64.format.order x y == some .eq || FloatKind.f64.format.order x x != some .eq && FloatKind.f64.format.order y y != some .eq) = feqF x y := by
  show (Ieee.double.order x y == some .eq || nanF x && nanF y) = feqF x y
  rw [eq_eq, nanF_eq, nanF_eq, feqF]
  by_cases h1 : keyF x = -9223372036854775808 <;> by_cases h2 : keyF x = keyF y <;> simp [h1] at * <;> omega
theorem feq_real {x y : Nat} (h : FloatKind.f64.format.order x x = some .eq) : (FloatKind.f64.format.order x y == some .eq) = feqF x y := by
  rw [← feq_all x y, h]; simp
theorem feq_same {x y : Nat} (h : FloatKind.f64.format.order x y = some .eq) : true = feqF x y := by
  rw [← feq_all x y, h]; simp

set_option maxHeartbeats 400000 in
theorem feq_any (x y : Nat) (w : World) :
    Calls Try.prog 10 #[.float .f64 x, .float .f64 y] w fun e w' => e = .returned (.bool (feqF x y)) ∧ w' = w := by
  go_enter Try.func10, Try.ntmps10
  go_wp2
  all_goals go_ret
  · exact ⟨ret_bool (feq_same ‹_›), rfl⟩
  · exact ⟨ret_bool (feq_real ‹_›), rfl⟩
  · exact ⟨ret_bool (feq_all x y), rfl⟩

/-! ### Worlds -/
theorem below_putRow {B : Nat} {w W : World} (h : Below B w W) {blk off : Nat} (hB : B ≤ blk) (d : Array Nat) : Below B w (Go.Sort.putRow encF W blk off d) :=
  ⟨h.os, h.tape, h.output, by rw [Go.Sort.size_putRow]; exact h.size, fun k hk => by
    rw [← h.block k hk]
    simp only [Go.Sort.putRow, Go.Sort.mapBlock, Array.getElem?_modify]
    rw [if_neg (by omega)]⟩
theorem below_grow {B : Nat} {w W : World} (h : Below B w W) (hB : B ≤ W.heap.size) (os : Array Obj) : Below B w (Go.Sort.grow W os) :=
  ⟨h.os, h.tape, h.output, by rw [Go.Sort.size_grow]; have := h.size; omega, fun k hk => by
    rw [Go.Sort.heap_grow_old W os (by omega)]; exact h.block k hk⟩
theorem below_ahead {B : Nat} {w W : World} (h : Below B w W) (n : Nat) : Below B w (Go.Sort.ahead W n) := ⟨h.os, h.tape, h.output, h.size, h.block⟩

theorem holds_below {B : Nat} {w W : World} (h : Below B w W) {blk off : Nat} (hB : blk < B) {d : Array Nat} (hH : Go.Sort.Holds encF w blk off d) : Go.Sort.Holds encF W blk off d := fun j hj =>
  ⟨by rw [h.cell (p := ⟨blk, off + j, none⟩) hB]; exact (hH j hj).1, by rw [h.frozen (p := ⟨blk, off + j, none⟩) hB]; exact (hH j hj).2⟩

/-- A new row of zeros. -/
theorem holds_made (w : World) (n : Nat) : Go.Sort.Holds encF (w.alloc (.cells (madeCells #[.float .f64 0] n) 25)) w.heap.size 0 (Array.replicate n 0) := by
  intro j hj
  have hj' : j < n := by simpa using hj
  have e : (Array.replicate n 0)[j]! = 0 := by rw [getElem!_pos _ j hj]; simp
  rw [e, Nat.zero_add]
  refine ⟨?_, World.frozen?_alloc_new w _ _ _⟩
  rw [World.cell?_alloc_new, ← Array.getElem?_toList, toList_madeCells_one]
  simp [hj']

theorem getElem!_set {d : Array Nat} {i j x : Nat} (hi : i < d.size) : (d.setIfInBounds i x)[j]! = if i = j then x else d[j]! := by
  by_cases h : i = j
  · subst h; rw [if_pos rfl]; exact Go.Sort.getElem!_set_same d i x hi
  · rw [if_neg h]
    by_cases hj : j < d.size
    · rw [getElem!_pos _ j (by simpa using hj), getElem!_pos _ j hj, Array.getElem_setIfInBounds_ne _ h]
    · rw [getElem!_neg _ j (by simpa using hj), getElem!_neg _ j hj]

theorem ext! {a b : Array Nat} (hs : a.size = b.size) (h : ∀ j, j < a.size → a[j]! = b[j]!) : a = b := by
  apply Array.ext hs
  intro i h1 h2
  have := h i h1
  rwa [getElem!_pos _ i h1, getElem!_pos _ i h2] at this

/-- A row of floats that the walk may read, at a place. -/
def RowF (w : World) (b off n : Nat) (d : Array Nat) : Prop := d.size = n ∧ ∀ t, t < n → w.cell? ⟨b, off + t, none⟩ = some (.float .f64 d[t]!)

theorem Try.info25 : (Try.prog.info? 25).map (fun i => (i.zero, i.size, i.bytes)) = some (some (.float .f64 0), 1, 8) := by kernel_rfl

set_option maxHeartbeats 400000 in
/-- zzCloneF of a slice that is not nil: a new block that holds the same. -/
theorem clone_any (b off n c : Nat) (d : Array Nat) (w : World) (hb : b < w.heap.size) (hn : n ≤ 131072) (hR : RowF w b off n d) :
    Calls Try.prog 6 #[.slice (some ⟨b, off, none⟩) n c] w fun e w' => ∃ g, w.heap.size ≤ g ∧ g < w'.heap.size ∧ e = .returned (.slice (some ⟨g, 0, none⟩) n n) ∧ Go.Sort.Holds encF w' g 0 d ∧ Below w.heap.size w w' := by
  obtain ⟨hd, hc⟩ := hR
  have hmk := run_make_row' (P := Try.prog) 22 25 (.float .f64 0) 8 Try.underlying22 Try.info25 rfl .i64 .i64 n (by omega) (by omega)
  have hnil := fun (a : Option Addr) (l c : Nat) (w : World) => Lib.run_eql_slice_nil (P := Try.prog) w 22 25 a l c 0 0 Try.underlying22
  have HM := holds_made w n
  have HC : Hid (∀ t, t < n → w.cell? ⟨b, off + t, none⟩ = some (.float .f64 d[t]!)) := hc
  have HD : Hid (d.size = n) := hd
  have HH : Hid (Go.Sort.Holds encF (w.alloc (.cells (madeCells #[.float .f64 0] n) 25)) w.heap.size 0 (Array.replicate n 0)) := HM
  clear hc hd HM
  go_enter Try.func6, Try.ntmps6
  go_wp2
  go_loopw [4] (fun i wr => ∃ (k : Nat) (dk : Array Nat), k ≤ n ∧ i = .int .i64 k ∧ dk.size = n ∧ (∀ j, j < k → dk[j]! = d[j]!) ∧ wr = Go.Sort.putRow encF (w.alloc (.cells (madeCells #[.float .f64 0] n) 25)) w.heap.size 0 dk)
    (fun i _ => n - (intOf i).toNat)
  case atStart => exact ⟨0, Array.replicate n 0, Nat.zero_le _, rfl, by simp, fun j hj => absurd hj (Nat.not_lt_zero _), (Go.Sort.putRow_self _ _ _ _ _ HH.out).symm⟩
  case round =>
    obtain ⟨k, dk, hk, rfl, hdk, hpre, hwr⟩ := hrel
    have hbel : Below w.heap.size w wr := by
      rw [hwr]; exact below_putRow ((Below.refl _ _).alloc (Nat.le_refl _) _) (Nat.le_refl _) _
    have hHr : Go.Sort.Holds encF wr w.heap.size 0 dk := by rw [hwr]; exact Go.Sort.holds_putRow _ _ _ _ _ _ HH.out (by simpa using hdk)
    have hsz : wr.heap.size = w.heap.size + 1 := by rw [hwr]; simp
    have HP : Hid (∀ j, j < k → dk[j]! = d[j]!) := hpre
    have HW : Hid (wr = Go.Sort.putRow encF (w.alloc (.cells (madeCells #[.float .f64 0] n) 25)) w.heap.size 0 dk) := hwr
    have HB : Hid (Below w.heap.size w wr) := hbel
    have HR : Hid (Go.Sort.Holds encF wr w.heap.size 0 dk) := hHr
    have HZ : Hid (wr.heap.size = w.heap.size + 1) := hsz
    clear hpre hwr hbel hHr hsz hmk hnil
    by_cases hlt : k < n
    · have c1 : wr.cell? ⟨b, off + k, none⟩ = some (.float .f64 d[k]!) := by rw [HB.out.cell (p := ⟨b, off + k, none⟩) hb]; exact HC.out k hlt
      have c2 : wr.cell? ⟨w.heap.size, k, none⟩ = some (.float .f64 dk[k]!) := by have := (HR.out k (by omega)).1; rwa [Nat.zero_add] at this
      have c3 : wr.frozen? ⟨w.heap.size, k, none⟩ = false := by have := (HR.out k (by omega)).2; rwa [Nat.zero_add] at this
      go_wp2
      go_roundw
      case rel =>
        refine ⟨k + 1, dk.setIfInBounds k d[k]!, by omega, by go_num, by simpa using hdk, fun j hj => ?_, ?_⟩
        · rw [getElem!_set (by omega)]
          by_cases e : k = j
          · rw [if_pos e, e]
          · rw [if_neg e]; exact HP.out j (by omega)
        · have := Go.Sort.putRow_set encF (w.alloc (.cells (madeCells #[.float .f64 0] n) 25)) w.heap.size 0 dk k d[k]! (by omega)
          rw [Nat.zero_add, ← HW.out] at this
          exact this
      case measure => simp [intOf]; omega
    · go_wp2
      go_ret
      have e : dk = d := ext! (by rw [hdk, HD.out]) (fun j hj => HP.out j (by omega))
      exact ⟨w.heap.size, Nat.le_refl _, by rw [HZ.out]; omega, rfl, by rw [← e]; exact HR.out, HB.out⟩

end Go.Proofs.Qxb6605729a
