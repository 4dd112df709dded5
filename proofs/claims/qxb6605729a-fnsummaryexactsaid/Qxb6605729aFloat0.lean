import Derived.Test.Qxb6605729aRows
import Derived.Sort.Walk0
import Derived.Laws.Cover2
namespace Go.Proofs.Qxb6605729a
open Go.RowKit Go.Sort

/-- x is a NaN: 'x != x'. -/
def nanF (x : Nat) : Bool := Ieee.double.order x x != some .eq
/-- Go's own order of floats: NaNs first, then rising. -/
def ltF (x y : Nat) : Bool := (nanF x && !nanF y) || (Ieee.double.order x y == some .lt)
/-- A float64 in memory. -/
abbrev encF : Nat → Value := Value.float .f64

theorem run_store_float {P : Program} {w : World} {a : Addr} {m : Mode} (k : FloatKind) (b : Nat) : (store a (.float k b) m).run P w = stored P w a (.float k b) m := run_store P w a _ m rfl

theorem ret_bool {a b : Bool} (h : a = b) : Ending.returned (.bool a) = .returned (.bool b) := by rw [h]
theorem less_nn {x y : Nat} (h : nanF x = true) (h2 : nanF y = true) : (FloatKind.f64.format.order x y == some .lt) = ltF x y := by
  unfold ltF; rw [h, h2]; rfl
theorem less_nr {x y : Nat} (h : nanF x = true) (h2 : ¬ nanF y = true) : true = ltF x y := by
  unfold ltF; rw [h, Bool.not_eq_true] at *; rw [h2]; rfl
theorem less_r {x y : Nat} (h : ¬ nanF x = true) : (FloatKind.f64.format.order x y == some .lt) = ltF x y := by
  unfold ltF; rw [Bool.not_eq_true] at h; rw [h]; rfl

set_option maxHeartbeats 400000 in
theorem Try.cmp_isNaN_int (x : Nat) (w : World) : Calls Try.prog 36 #[.float .f64 x] w fun e w' => e = .returned (.bool (nanF x)) ∧ w' = w := by
  go_enter Try.func36, Try.ntmps36
  go_wp2
  go_ret
  exact ⟨rfl, rfl⟩

set_option maxHeartbeats 400000 in
theorem Try.cmp_Less_int (x y : Nat) (w : World) : Calls Try.prog 26 #[.float .f64 x, .float .f64 y] w fun e w' => e = .returned (.bool (ltF x y)) ∧ w' = w := by
  go_enter Try.func26, Try.ntmps26
  go_wp2_with (go_at_call 36; refine (Try.cmp_isNaN_int _ _).mono ?_; rintro e w' ⟨rfl, rfl⟩)
  all_goals go_ret
  · exact ⟨ret_bool (less_nn ‹_› ‹_›), rfl⟩
  · exact ⟨ret_bool (less_nr ‹_› ‹_›), rfl⟩
  · exact ⟨ret_bool (less_r ‹_›), rfl⟩

end Go.Proofs.Qxb6605729a
