import Derived.Test.Qxb6604409aRows
import Derived.WalkKit
import Derived.WalkSpells
import Derived.BigQuiet
import Derived.Lib.Strings
namespace Go.Proofs.Qxb6604409a
open Go.RowKit

def intV : Value → Int | .int _ q => q | _ => 0

/-- No ':' at any place of s. -/
def NoColon (s : ByteArray) : Prop := ∀ (k : Nat) (h : k < s.size), s[k] ≠ 58

theorem toNat_ne {c : UInt8} (h : ((c.toNat : Int) == 58) = false) : c ≠ 58 := by
  rintro rfl; simp at h

theorem toNat_eq {c : UInt8} (h : c ≠ 58) : ((c.toNat : Int) == 58) = false := by
  rw [beq_eq_false_iff_ne]
  intro e
  apply h
  apply UInt8.toNat_inj.1
  have : (58 : UInt8).toNat = 58 := rfl
  omega

set_option maxHeartbeats 400000 in
theorem first_any (s : ByteArray) (w : World) (hs : s.size ≤ maxLen) :
    Calls Try.prog 7 #[.string s, .int .u8 58] w fun e w' => (∃ r : Int, e = .returned (.int .i64 r) ∧ (0 ≤ r ∨ (r = -1 ∧ NoColon s))) ∧ w' = w := by
  unfold maxLen at hs
  go_enter Try.func7, Try.ntmps7
  go_wp2
  go_loop [5] (fun i => ∃ k : Nat, k ≤ s.size ∧ i = .int .i64 k ∧ ∀ (j : Nat) (h : j < s.size), j < k → s[j] ≠ 58) (fun i => s.size - (intV i).toNat)
  case atStart => exact ⟨0, Nat.zero_le _, rfl, fun j _ h => absurd h (Nat.not_lt_zero _)⟩
  case round =>
    obtain ⟨k, hk, rfl, hno⟩ := hrel
    have HN : Hid (∀ (j : Nat) (h : j < s.size), j < k → s[j] ≠ 58) := hno
    clear hno
    by_cases hlt : k < s.size
    · by_cases hc : ((s[k].toNat : Int) == 58) = true
      · go_wp2
        go_ret
        exact ⟨⟨_, rfl, Or.inl (by omega)⟩, rfl⟩
      · have hc' : ((s[k].toNat : Int) == 58) = false := by simpa using hc
        clear hc
        go_wp2
        go_round
        case rel => exact ⟨k + 1, by omega, by go_num, fun j h hj => by
          rcases Nat.lt_or_ge j k with h1 | h1
          · exact HN.out j h h1
          · obtain rfl : j = k := by omega
            exact toNat_ne hc'⟩
        case measure => simp [intV]; omega
    · go_wp2
      go_ret
      exact ⟨⟨_, rfl, Or.inr ⟨rfl, fun j h => HN.out j h (by omega)⟩⟩, rfl⟩

set_option maxHeartbeats 400000 in
theorem last_any (s : ByteArray) (m : Nat) (w : World) (hs : s.size ≤ maxLen) (hm : m < s.size) (hc : s[m] = 58) (hno : ∀ (j : Nat) (h : j < s.size), m < j → s[j] ≠ 58) :
    Calls Try.prog 10 #[.string s, .int .u8 58] w fun e w' => e = .returned (.int .i64 m) ∧ w' = w := by
  unfold maxLen at hs
  have HN : Hid (∀ (j : Nat) (h : j < s.size), m < j → s[j] ≠ 58) := hno
  have HC : Hid (s[m] = 58) := hc
  clear hno hc
  go_enter Try.func10, Try.ntmps10
  go_wp2
  go_loop [5] (fun i => ∃ k : Nat, k < s.size ∧ m ≤ k ∧ i = .int .i64 k) (fun i => (intV i).toNat)
  case atStart => exact ⟨s.size - 1, by omega, by omega, by go_num⟩
  case round =>
    obtain ⟨k, hk, hmk, rfl⟩ := hrel
    by_cases hlt : m < k
    · have hc' : ((s[k].toNat : Int) == 58) = false := toNat_eq (HN.out k hk hlt)
      go_wp2
      go_round
      case rel => exact ⟨k - 1, by omega, by omega, by go_num⟩
      case measure => simp [intV]; omega
    · obtain rfl : m = k := by omega
      have hc' : ((s[m].toNat : Int) == 58) = true := by rw [HC.out]; rfl
      go_wp2
      go_ret
      exact ⟨rfl, rfl⟩

set_option maxHeartbeats 400000 in
theorem bytes6_any (a b : ByteArray) (w : World) (ha : a.size ≤ maxLen) (hb : b.size ≤ maxLen) :
    Calls Try.prog 6 #[.string a, .string b] w fun e w' => (∃ r : Bool, e = .returned (.bool r)) ∧ w' = w := by
  unfold maxLen at ha hb
  go_enter Try.func6, Try.ntmps6
  go_wp2
  all_goals go_ret
  all_goals exact ⟨⟨_, rfl⟩, rfl⟩

set_option maxHeartbeats 400000 in
theorem bytes11_any (a b c d : ByteArray) (w : World) (ha : a.size ≤ maxLen) (hb : b.size ≤ maxLen) (hc : c.size ≤ maxLen) (hd : d.size ≤ maxLen) :
    Calls Try.prog 11 #[.string a, .string b, .string c, .string d] w fun e w' => (∃ r : Bool, e = .returned (.bool r)) ∧ w' = w := by
  unfold maxLen at ha hb hc hd
  go_enter Try.func11, Try.ntmps11
  go_wp2
  all_goals go_ret
  all_goals exact ⟨⟨_, rfl⟩, rfl⟩

set_option maxHeartbeats 400000 in
theorem prefix_any (s p : ByteArray) (w : World) (hs : s.size ≤ maxLen) (hp : p.size ≤ s.size) (heq : ∀ (k : Nat) (h : k < p.size), s[k] = p[k]) :
    Calls Try.prog 12 #[.string s, .string p] w fun e w' => e = .returned (.bool true) ∧ ∃ n, w' = w.drewN n := by
  unfold maxLen at hs
  have HE : Hid (∀ (k : Nat) (h : k < p.size), s[k] = p[k]) := heq
  clear heq
  go_enter Try.func12, Try.ntmps12
  go_wp2
  go_loopw [5] (fun i wr => ∃ (k n : Nat), k ≤ p.size ∧ i = .int .i64 k ∧ wr = w.drewN n) (fun i _ => p.size - (intV i).toNat)
  case atStart => exact ⟨0, 0, Nat.zero_le _, rfl, rfl⟩
  case round =>
    obtain ⟨k, n, hk, rfl, rfl⟩ := hrel
    by_cases hlt : k < p.size
    · have hne : ((s[k].toNat : Int) != (p[k].toNat : Int)) = false := by rw [HE.out k hlt]; simp
      have hks : k < s.size := by omega
      go_wp2
      go_quiet (fail)
      go_wp2
      go_roundw
      case rel => exact ⟨k + 1, _, by omega, by go_num, rfl⟩
      case measure => simp [intV]; omega
    · go_wp2
      go_ret
      exact ⟨rfl, n, rfl⟩

set_option maxHeartbeats 400000 in
theorem suffix_any (s p : ByteArray) (d : Nat) (w : World) (hs : s.size ≤ maxLen) (hp : p.size + d = s.size) (heq : ∀ (k : Nat) (h : k < p.size) (h2 : d + k < s.size), s[d + k] = p[k]) :
    Calls Try.prog 13 #[.string s, .string p] w fun e w' => e = .returned (.bool true) ∧ ∃ n, w' = w.drewN n := by
  unfold maxLen at hs
  have HE : Hid (∀ (k : Nat) (h : k < p.size) (h2 : d + k < s.size), s[d + k] = p[k]) := heq
  have hle : p.size ≤ s.size := by omega
  have hd : (s.size : Int) - (p.size : Int) = d := by omega
  have hlo : p.size + d ≤ s.size := by omega
  clear heq hp
  go_enter Try.func13, Try.ntmps13
  go_wp2
  go_loopw [6] (fun i wr => ∃ (k n : Nat), k ≤ p.size ∧ i = .int .i64 k ∧ wr = w.drewN n) (fun i _ => p.size - (intV i).toNat)
  case atStart => exact ⟨0, 0, Nat.zero_le _, rfl, rfl⟩
  case round =>
    obtain ⟨k, n, hk, rfl, rfl⟩ := hrel
    by_cases hlt : k < p.size
    · have hks : d + k < s.size := by omega
      have hne : ((s[d + k].toNat : Int) != (p[k].toNat : Int)) = false := by rw [HE.out k hlt hks]; simp
      have hwr : IntKind.i64.wrap ((d : Int) + (k : Int)) = (d : Int) + (k : Int) := by rw [IntKind.wrap_i64]; omega
      have hi0 : 0 ≤ (d : Int) + (k : Int) := by omega
      have hi1 : (d : Int) + (k : Int) < (s.size : Int) := by omega
      have hi2 : ((d : Int) + (k : Int)).toNat = d + k := by omega
      go_wp2
      go_quiet (fail)
      go_wp2
      go_roundw
      case rel => exact ⟨k + 1, _, by omega, by go_num, rfl⟩
      case measure => simp [intV]; omega
    · go_wp2
      go_ret
      exact ⟨rfl, n, rfl⟩

set_option maxHeartbeats 400000 in
theorem ref_any (a b : ByteArray) (w : World) :
    Calls Try.prog 8 #[.string a, .string b] w fun e w' => e = .returned (.agg #[.string a, .string b]) ∧ w' = w.alloc (.cells #[.string a, .string b] 25) := by
  go_enter Try.func8, Try.ntmps8
  go_wp2
  exact bodyPost_ret (v := .agg #[.string a, .string b]) (by simp [results, Try.results8, go_sem]) rfl ⟨rfl, rfl⟩

/-- The reference's text. -/
def refStr (a b : ByteArray) : ByteArray := a ++ ⟨#[58]⟩ ++ b

set_option maxHeartbeats 400000 in
theorem str_any (a b : ByteArray) (w : World) (ha : a.size ≤ 524288) (hb : b.size ≤ 524288) :
    Calls Try.prog 9 #[.agg #[.string a, .string b]] w fun e w' => e = .returned (.string (refStr a b)) ∧ w' = w.alloc (.cells #[.string a, .string b] 25) := by
  go_enter Try.func9, Try.ntmps9
  go_wp2
  go_ret
  exact ⟨rfl, rfl⟩

theorem refStr_size (a b : ByteArray) : (refStr a b).size = a.size + 1 + b.size := by
  unfold refStr; simp [ByteArray.size_append]; rfl

theorem refStr_left (a b : ByteArray) (k : Nat) (h : k < a.size) (h2 : k < (refStr a b).size) : (refStr a b)[k] = a[k] := by
  revert h2; unfold refStr; intro h2
  rw [ByteArray.getElem_append_left (a := a ++ ⟨#[58]⟩) (b := b) (by simp [ByteArray.size_append]; omega), ByteArray.getElem_append_left h]

theorem refStr_mid (a b : ByteArray) (h2 : a.size < (refStr a b).size) : (refStr a b)[a.size] = 58 := by
  revert h2; unfold refStr; intro h2
  rw [ByteArray.getElem_append_left (a := a ++ ⟨#[58]⟩) (b := b) (by simp [ByteArray.size_append]; exact Nat.zero_lt_one), ByteArray.getElem_append_right (Nat.le_refl _)]
  simp; rfl

theorem refStr_right (a b : ByteArray) (k : Nat) (h : k < b.size) (h2 : a.size + 1 + k < (refStr a b).size) : (refStr a b)[a.size + 1 + k] = b[k] := by
  revert h2; unfold refStr; intro h2
  have e : (a ++ (⟨#[58]⟩ : ByteArray)).size = a.size + 1 := by simp [ByteArray.size_append]; rfl
  rw [ByteArray.getElem_append_right (a := a ++ ⟨#[58]⟩) (b := b) (by omega)]
  congr 1
  omega

theorem refStr_no (a b : ByteArray) (hb : NoColon b) (j : Nat) (h : j < (refStr a b).size) (hj : a.size < j) : (refStr a b)[j] ≠ 58 := by
  have hs := refStr_size a b
  obtain ⟨k, rfl⟩ : ∃ k, j = a.size + 1 + k := ⟨j - a.size - 1, by omega⟩
  rw [refStr_right a b k (by omega)]
  exact hb k (by omega)

theorem refStr_data (a b : ByteArray) : (refStr a b).data.toList = a.data.toList ++ 58 :: b.data.toList := by
  unfold refStr
  rw [ByteArray.data_append, ByteArray.data_append]
  simp

theorem refStr_head (a b : ByteArray) : ((refStr a b).extract 0 a.size).toList = a.toList := by
  rw [Lib.toList_data, Lib.toList_data, Lib.extract_data, refStr_data, Lib.size_eq]
  simp

theorem refStr_tail (a b : ByteArray) : ((refStr a b).extract (a.size + 1) (a.size + 1 + b.size)).toList = b.toList := by
  rw [Lib.toList_data, Lib.toList_data, Lib.extract_data, refStr_data, Lib.size_eq, Lib.size_eq, List.drop_append,
    List.drop_eq_nil_of_le (by omega), List.take_of_length_le (by simp)]
  simp

end Go.Proofs.Qxb6604409a
