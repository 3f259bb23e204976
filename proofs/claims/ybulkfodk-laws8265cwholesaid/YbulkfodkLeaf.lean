import Derived.Test.YbulkfodkRows
import Derived.Test.YbulkfodkParts
import Derived.WalkKit
import Derived.WalkLawsBesides
import Derived.WalkSpells
import Derived.Outline
import Derived.Lib.SliceRun
import Derived.Deep.QuietTactic
import Derived.BigQuiet
namespace Go.Proofs.Ybulkfodk
open Go.RowKit

theorem ret_bool {a b : Bool} (h : a = b) : Ending.returned (.bool a) = .returned (.bool b) := by rw [h]

set_option maxHeartbeats 400000 in
/-- 'zzs8265chas(a, x)'. -/
theorem has_any (a : Option Addr) (n cap L : Nat) (s : Nat → ByteArray) (x : ByteArray) (w : World) (hn : (n : Int) ≤ 9223372036854775806) (hr : Hid (Row w L a n s)) :
    Calls Yba.prog 6 #[.slice a n cap, .string x] w fun e w' => e = .returned (.bool (hasB s n x)) ∧ w' = w := by
  go_enter Yba.func6, Yba.ntmps6
  go_wp2
  go_loop [5] (fun i => ∃ k : Nat, k ≤ n ∧ i = .int .i64 k ∧ hasB s k x = false) (fun i => n - (intOf i).toNat)
  case atStart => exact ⟨0, Nat.zero_le _, rfl, hasB_zero _ _⟩
  case round =>
    obtain ⟨k, hk, rfl, hh⟩ := hrel
    have HH := (show Hid (hasB s k x = false) from hh)
    clear hh
    by_cases hlt : k < n
    · obtain ⟨_, b, off, h1, h2⟩ := hr.out
      obtain ⟨rfl, _, _⟩ := h1 (by omega)
      have hc := h2 k hlt
      have hlt' : (k : Int) < (n : Int) := by omega
      clear h1 h2
      go_wp2
      · go_ret
        exact ⟨ret_bool (hasB_hit s n k x hlt (by assumption)).symm, rfl⟩
      · go_round
        case rel => exact ⟨k + 1, by omega, by go_num, by rw [hasB_succ, HH.out, Bool.false_or]; assumption⟩
        case measure => simp [intOf]; omega
    · obtain rfl : k = n := by omega
      go_wp2
      go_ret
      exact ⟨ret_bool HH.out.symm, rfl⟩

set_option maxHeartbeats 400000 in
/-- 'slices.Index(a, x)': found or not. -/
theorem index_any (a : Option Addr) (n cap L : Nat) (s : Nat → ByteArray) (x : ByteArray) (w : World) (hn : (n : Int) ≤ 9223372036854775806) (hr : Hid (Row w L a n s)) :
    Calls Yba.prog 14 #[.slice a n cap, .string x] w fun e w' => (∃ r : Int, e = .returned (.int .i64 r) ∧ -1 ≤ r ∧ r ≤ n ∧ decide (0 ≤ r) = hasB s n x) ∧ w' = w := by
  go_enter Yba.func14, Yba.ntmps14
  go_wp2
  go_loop [8] (fun i => ∃ k : Nat, k ≤ n ∧ i = .int .i64 k ∧ hasB s k x = false) (fun i => n - (intOf i).toNat)
  case atStart => exact ⟨0, Nat.zero_le _, rfl, hasB_zero _ _⟩
  case round =>
    obtain ⟨k, hk, rfl, hh⟩ := hrel
    have HH := (show Hid (hasB s k x = false) from hh)
    clear hh
    by_cases hlt : k < n
    · obtain ⟨_, b, off, h1, h2⟩ := hr.out
      obtain ⟨rfl, _, _⟩ := h1 (by omega)
      have hc := h2 k hlt
      have hlt' : (k : Int) < (n : Int) := by omega
      clear h1 h2
      go_wp2
      · go_ret
        exact ⟨⟨_, rfl, by omega, by omega, by rw [hasB_hit s n k x hlt (by rw [← hasB_flip]; assumption)]; exact decide_eq_true (by omega)⟩, rfl⟩
      · go_round
        case rel => exact ⟨k + 1, by omega, by go_num, by rw [hasB_succ, HH.out, Bool.false_or, ← hasB_flip]; assumption⟩
        case measure => simp [intOf]; omega
    · obtain rfl : k = n := by omega
      go_wp2
      go_ret
      exact ⟨⟨_, rfl, by omega, by omega, by rw [HH.out]; rfl⟩, rfl⟩

set_option maxHeartbeats 400000 in
/-- 'slices.Contains(a, x)'. -/
theorem contains_any (a : Option Addr) (n cap L : Nat) (s : Nat → ByteArray) (x : ByteArray) (w : World) (hn : (n : Int) ≤ 9223372036854775806) (hr : Hid (Row w L a n s)) :
    Calls Yba.prog 12 #[.slice a n cap, .string x] w fun e w' => e = .returned (.bool (hasB s n x)) ∧ w' = w := by
  go_enter Yba.func12, Yba.ntmps12
  go_wp2_with fail
  refine (index_any a n cap L s x _ hn hr).mono ?_
  rintro e w' ⟨⟨r, rfl, h0, h1, hh⟩, rfl⟩
  have HH := (show Hid _ from hh)
  clear hh
  go_wp2
  go_ret
  exact ⟨ret_bool HH.out, rfl⟩

/-- The status that k picks. -/
def endS (k : Int) : ByteArray := if k % 4 = 1 then ⟨#[101, 120, 101, 99, 117, 116, 101, 100]⟩ else if k % 4 = 2 then ⟨#[99, 97, 110, 99, 101, 108, 108, 101, 100]⟩ else if k % 4 = 3 then ⟨#[112, 101, 110, 100, 105, 110, 103]⟩ else ⟨#[]⟩
theorem ret_str {a b : ByteArray} (h : a = b) : Ending.returned (.string a) = .returned (.string b) := by rw [h]
set_option maxHeartbeats 400000 in
theorem ended_any (k : Int) (w : World) (h0 : 0 ≤ k) (h1 : k ≤ 255) :
    Calls Yba.prog 5 #[.int .u8 k] w fun e w' => e = .returned (.string (endS k)) ∧ w' = w := by
  rcases (show k % 4 = 0 ∨ k % 4 = 1 ∨ k % 4 = 2 ∨ k % 4 = 3 by omega) with h | h | h | h
  all_goals
    go_enter Yba.func5, Yba.ntmps5
    go_wp2
    go_ret
    exact ⟨ret_str (by simp [endS, h]), rfl⟩
end Go.Proofs.Ybulkfodk
