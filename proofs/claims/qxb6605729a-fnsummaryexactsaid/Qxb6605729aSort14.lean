import Derived.Test.Qxb6605729aSort13
import Derived.Test.Qxb6605729aSortA
import Derived.Test.Qxb6605729aSortA6
import Derived.Test.Qxb6605729aSortC
import Derived.Test.Qxb6605729aSortC4
import Derived.Test.Qxb6605729aSort7
import Derived.Test.Qxb6605729aSort11
import Derived.Test.Qxb6605729aSortBits
import Derived.Test.Qxb6605729aKey
import Derived.Sort.AssemblyPlain
import Derived.Sort.WalkA14
namespace Go.Proofs.Qxb6605729a
open Go.RowKit Go.Sort
attribute [local go_sem] run_store_float

/-- WALK 13's CONTRACT, as the plan writes it, at int. -/
def pdqWalk_int : Prop := ∀ (blk off cap a b limit : Nat) (d : Array Nat) (w : World), Holds (Value.float .f64) w blk off d → blk < w.heap.size → a ≤ b → b ≤ d.size → d.size < 4611686018427387904 → limit < 4611686018427387904 → Below ltF a b d →
  Calls Try.prog 18 #[.slice (some ⟨blk, off, none⟩) d.size cap, .int .i64 a, .int .i64 b, .int .i64 limit] w fun e w' =>
    e = .returned (.tuple #[]) ∧ ∃ n os, w' = grow (putRow (Value.float .f64) (Sort.ahead w n) blk off (Sort.pdq ltF d a b limit true true)) os

set_option maxRecDepth 100000 in
/-- WALK 14 OF THE PLAN, at int: slices.Sort's own body. -/
theorem Try.Sort_int (hpdq : pdqWalk_int) (blk off cap : Nat) (d : Array Nat) (w : World) (hH : Holds (Value.float .f64) w blk off d) (hblk : blk < w.heap.size) (hsz : d.size < 4611686018427387904) :
    Calls Try.prog 17 #[.slice (some ⟨blk, off, none⟩) d.size cap] w fun e w' => e = .returned (.tuple #[]) ∧ ∃ n os, w' = grow (putRow (Value.float .f64) (Sort.ahead w n) blk off (Sort.sort ltF d)) os := by
  have HH : Hid (Holds (Value.float .f64) w blk off d) := hH
  clear hH
  have hLen : ∀ w, Calls Try.prog 19 #[.int .u64 (d.size : Int)] w fun e w' => e = .returned (.int .i64 (bitsLen d.size : Nat)) ∧ w' = w := fun w => by
    have h := Try.bits_Len (d.size : Int) w (by omega) (by omega)
    rwa [Int.toNat_natCast, bitLen_eq _ (by omega)] at h
  have hk : bitsLen d.size ≤ 62 := (bitsLen_le_iff d.size 62).2 (by omega)
  go_enter Try.func17, Try.ntmps17
  go_wp2_with (first
    | (go_at_call 19; refine (hLen _).mono ?_; rintro e w' ⟨rfl, rfl⟩)
    | (go_at_call 18; refine (hpdq blk off cap 0 d.size (bitsLen d.size) d _ (by exact HH.out) (by exact hblk) (Nat.zero_le _) (Nat.le_refl _) hsz (by omega) (Or.inl rfl)).mono ?_; rintro e w' ⟨rfl, n, os, rfl⟩))
  go_end0
  exact ⟨rfl, n, os, rfl⟩

theorem callees13 : Callees13 where
  ins := Try.insertionSort_int
  brk := Try.breakPatterns_int
  piv := Try.choosePivot_str
  par := Try.partialInsertionSort_int
  peq := Try.partitionEqualOrdered_int
  prt := Try.partitionOrdered_int

theorem plain13 : Plain13 where
  swo := swo_ltF
  ins := insertionSort_holds
  par := partialInsertionSort_holds
  prt := partition_holds _
  peq := partitionEqual_holds _
  pdq := pdq_sorts _

theorem pdqWalkF : pdqWalk_int := fun blk off cap a b limit d w hH hb hab hbd hsz hl hB =>
  Try.pdqsort_int callees13 plain13 (b - a + 1) blk off cap a b limit d w (by omega) hH hb hab hbd hsz hl hB

/-- slices.Sort at []float64. -/
theorem Try.slices_Sort (blk off cap : Nat) (d : Array Nat) (w : World) (hH : Holds encF w blk off d) (hblk : blk < w.heap.size) (hsz : d.size < 4611686018427387904) :
    Calls Try.prog 17 #[.slice (some ⟨blk, off, none⟩) d.size cap] w fun e w' => e = .returned (.tuple #[]) ∧ ∃ n os, w' = grow (putRow encF (Sort.ahead w n) blk off (Sort.sort ltF d)) os :=
  Try.Sort_int pdqWalkF blk off cap d w hH hblk hsz

/-- .. and what it leaves is sorted, and a permutation. -/
theorem sorted_F (d : Array Nat) : PermIn 0 d.size d (Sort.sort ltF d) ∧ SortedIn ltF 0 d.size (Sort.sort ltF d) := sort_sorts ltF swo_ltF d

end Go.Proofs.Qxb6605729a
