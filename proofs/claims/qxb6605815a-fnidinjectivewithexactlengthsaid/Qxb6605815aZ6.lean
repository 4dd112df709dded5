import Derived.Test.Qxb6605815aId
namespace Go.Proofs.Qxb6605815a
open Go.RowKit

theorem tab_info (K : Nat → Bool) : (Try.prog.info? 22).map (·.size) = some (tabV K).size := by
  rw [tabV_size]; kernel_rfl

set_option maxHeartbeats 1000000 in
set_option maxRecDepth 1000000 in
theorem z6_any (f : Bool) (e : UInt8) (K : Nat → Bool) (key : ByteArray) (w : World) (hk : key.size ≤ 1048576) :
    Calls Try.prog 6 #[.bool f, .int .u8 (e.toNat : Int), .agg (tabV K), .string key] w fun r w' =>
      r = .returned (.string ⟨(idL f e K key).toArray⟩) ∧ Below w.heap.size w w' := by
  go_enter Try.func6, Try.ntmps6
  go_wp2_with fail
  have C0 : ((w.alloc (.cells #[.bool f] 4)).alloc (.cells (tabV K) 22)).cell? ⟨w.heap.size, 0, none⟩ = some (.bool f) := by
    rw [World.cell?_alloc_lt _ _ _ (by simp)]
    exact World.cell?_alloc_new w _ _ 0
  have C1 : HasTab K (w.heap.size + 1) ((w.alloc (.cells #[.bool f] 4)).alloc (.cells (tabV K) 22)) := by
    have := (MapKept.heap_alloc (w.alloc (.cells #[.bool f] 4)) (.cells (tabV K) 22)).1
    have hs : (w.alloc (.cells #[.bool f] 4)).heap.size = w.heap.size + 1 := by simp
    rwa [hs] at this
  refine (id_any f e K key w.heap.size (w.heap.size + 1) _ hk (by simp; omega) (by simp) C0 C1).mono ?_
  rintro r w1 ⟨rfl, hb⟩
  go_wp2
  go_ret
  refine ⟨rfl, ?_⟩
  have hB : Below w.heap.size w ((w.alloc (.cells #[.bool f] 4)).alloc (.cells (tabV K) 22)) := ((Below.refl _ _).alloc (Nat.le_refl _) _).alloc (by simp) _
  exact hB.trans (hb.mono (by simp; omega))

theorem u8_of {n : Int} (h : (Lit.int .u8 n).wf = true) : ∃ e : UInt8, n = (e.toNat : Int) := by
  simp [Lit.wf, IntKind.min, IntKind.max, IntKind.signed, IntKind.bits] at h
  refine ⟨UInt8.ofNat n.toNat, ?_⟩
  rw [UInt8.toNat_ofNat']
  omega

theorem ret_true {b : Bool} (h : b = true) : Ending.returned (.bool b) = .returned (.bool true) := by rw [h]

end Go.Proofs.Qxb6605815a
