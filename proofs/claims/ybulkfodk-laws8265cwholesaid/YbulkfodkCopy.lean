import Derived.Test.YbulkfodkLeaf
namespace Go.Proofs.Ybulkfodk
open Go.RowKit
theorem Yba.info9 : (Yba.prog.info? 9).map (fun i => (i.zero, i.size, i.bytes)) = some (some (.string ByteArray.empty), 1, 16) := by kernel_rfl
set_option maxRecDepth 100000 in
set_option maxHeartbeats 1000000 in
theorem copy_made (a : Option Addr) (n cap L : Nat) (s : Nat → ByteArray) (x : ByteArray) (add : Bool) (w : World) (hn : (n : Int) ≤ 8796093022208) (hr : Hid (Row w L a n s)) (hx : Hid (add = true → s n = x)) (hna : (a.isNone && !add) = false) :
    Calls Yba.prog 4 #[.slice a n cap, .string x, .bool add] w fun e w' => e = .returned (.slice (some ⟨w.heap.size, 0, none⟩) (up n add) (n + 1)) ∧ Row w' w.heap.size (some ⟨w.heap.size, 0, none⟩) (up n add) s ∧ Below w.heap.size w w' := by
  obtain ⟨i0, hi, hz0, hz1, hz2⟩ := info_parts Yba.info9
  have q22 : ∀ (w : World) (a : Option Addr) (n c n' c' : Nat), (binOp .eql 22 (.slice a n c) (.slice none n' c')).run Yba.prog w = .ok (.bool a.isNone) w := fun w a n c n' c' => Lib.run_eql_slice_nil w _ _ a n c n' c' Yba.underlying22
  cases hA : a.isNone <;> cases add
  · clear hna
    go_enter Yba.func4, Yba.ntmps4
    go_wp2_with (at_make; refine wpList_make_own _ rfl _ _ 22 rfl w.heap.size 9 i0 _ 1 Yba.underlying22 hi hz0 hz1 _ _ _ (n + 1) rfl rfl (by omega) (by rw [hz2]; omega) (by unfold maxLen; omega) (Nat.le_refl _) ?_; intro w1 hown1 hgrow1)
    go_loopw [7, 8] (fun v i wr => ∃ k : Nat, k ≤ n ∧ i = .int .i64 k ∧ v = .slice (some ⟨w.heap.size, 0, none⟩) k (n + 1) ∧ wr.ownsRow w.heap.size 9 1 (.slice (some ⟨w.heap.size, 0, none⟩) k (n + 1)) k (strs s k) ∧ Below w.heap.size w wr) (fun _ i _ => n - (intOf i).toNat)
    case atStart => exact ⟨0, Nat.zero_le _, rfl, rfl, hown1, (Below.refl _ _).grown hgrow1 (Nat.le_refl _) (fun _ h => by cases h)⟩
    case round =>
      obtain ⟨k, hk, rfl, rfl, hown, hbel⟩ := hrel
      clear hown1 hgrow1
      by_cases hlt : k < n
      · obtain ⟨_, b, off, h1, h2⟩ := hr.out
        obtain ⟨rfl, _, hbt⟩ := h1 (by omega)
        have hck := (hbel.cell (p := ⟨b, off + k, none⟩) hbt).trans (h2 k hlt)
        have hlt' : (k : Int) < (n : Int) := by omega
        clear h1 h2
        go_wp2_with (at_builtin; refine wpList_append_fits _ rfl _ _ 22 rfl w.heap.size 9 i0 1 Yba.underlying22 hi hz1 w.heap.size k (n + 1) (strs s k) rfl (hown.alloc _) ⟨wr.heap.size, 0, none⟩ 1 1 [.string (s k)] rfl rfl (new_string _ _) (one_string _) (by omega) ?_; intro w2 hown2 hgrow2; have hb2 : Below w.heap.size w w2 := (hbel.alloc hbel.size _).grown hgrow2 (by have := hbel.size; simp; omega) (fun j hj => by cases hj; exact Nat.le_refl _); rw [← strs_succ] at hown2; clear hown hgrow2 hck hbel)
        go_roundw
        case rel => exact ⟨k + 1, by omega, by go_num, rfl, hown2, hb2⟩
        case measure => simp [intOf]; omega
      · obtain rfl : k = n := by omega
        go_wp2
        go_ret
        exact ⟨rfl, Row.own hown (Nat.le_refl _), hbel⟩
  · clear hna
    go_enter Yba.func4, Yba.ntmps4
    go_wp2_with (at_make; refine wpList_make_own _ rfl _ _ 22 rfl w.heap.size 9 i0 _ 1 Yba.underlying22 hi hz0 hz1 _ _ _ (n + 1) rfl rfl (by omega) (by rw [hz2]; omega) (by unfold maxLen; omega) (Nat.le_refl _) ?_; intro w1 hown1 hgrow1)
    go_loopw [7, 8] (fun v i wr => ∃ k : Nat, k ≤ n ∧ i = .int .i64 k ∧ v = .slice (some ⟨w.heap.size, 0, none⟩) k (n + 1) ∧ wr.ownsRow w.heap.size 9 1 (.slice (some ⟨w.heap.size, 0, none⟩) k (n + 1)) k (strs s k) ∧ Below w.heap.size w wr) (fun _ i _ => n - (intOf i).toNat)
    case atStart => exact ⟨0, Nat.zero_le _, rfl, rfl, hown1, (Below.refl _ _).grown hgrow1 (Nat.le_refl _) (fun _ h => by cases h)⟩
    case round =>
      obtain ⟨k, hk, rfl, rfl, hown, hbel⟩ := hrel
      clear hown1 hgrow1
      by_cases hlt : k < n
      · obtain ⟨_, b, off, h1, h2⟩ := hr.out
        obtain ⟨rfl, _, hbt⟩ := h1 (by omega)
        have hck := (hbel.cell (p := ⟨b, off + k, none⟩) hbt).trans (h2 k hlt)
        have hlt' : (k : Int) < (n : Int) := by omega
        clear h1 h2
        go_wp2_with (at_builtin; refine wpList_append_fits _ rfl _ _ 22 rfl w.heap.size 9 i0 1 Yba.underlying22 hi hz1 w.heap.size k (n + 1) (strs s k) rfl (hown.alloc _) ⟨wr.heap.size, 0, none⟩ 1 1 [.string (s k)] rfl rfl (new_string _ _) (one_string _) (by omega) ?_; intro w2 hown2 hgrow2; have hb2 : Below w.heap.size w w2 := (hbel.alloc hbel.size _).grown hgrow2 (by have := hbel.size; simp; omega) (fun j hj => by cases hj; exact Nat.le_refl _); rw [← strs_succ] at hown2; clear hown hgrow2 hck hbel)
        go_roundw
        case rel => exact ⟨k + 1, by omega, by go_num, rfl, hown2, hb2⟩
        case measure => simp [intOf]; omega
      · obtain rfl : k = n := by omega
        go_wp2_with (at_builtin; refine wpList_append_fits _ rfl _ _ 22 rfl w.heap.size 9 i0 1 Yba.underlying22 hi hz1 w.heap.size k (k + 1) (strs s k) rfl (hown.alloc _) ⟨wr.heap.size, 0, none⟩ 1 1 [.string x] rfl rfl (new_string _ _) (one_string _) (by omega) ?_; intro w2 hown2 hgrow2; have hb2 : Below w.heap.size w w2 := (hbel.alloc hbel.size _).grown hgrow2 (by have := hbel.size; simp; omega) (fun j hj => by cases hj; exact Nat.le_refl _); rw [← hx.out (by first | rfl | trivial), ← strs_succ] at hown2; clear hown hgrow2 hbel)
        go_ret
        exact ⟨rfl, Row.own hown2 (Nat.le_refl _), hb2⟩
  · rw [hA] at hna; cases hna
  · clear hna
    go_enter Yba.func4, Yba.ntmps4
    go_wp2_with (at_make; refine wpList_make_own _ rfl _ _ 22 rfl w.heap.size 9 i0 _ 1 Yba.underlying22 hi hz0 hz1 _ _ _ (n + 1) rfl rfl (by omega) (by rw [hz2]; omega) (by unfold maxLen; omega) (Nat.le_refl _) ?_; intro w1 hown1 hgrow1)
    go_loopw [7, 8] (fun v i wr => ∃ k : Nat, k ≤ n ∧ i = .int .i64 k ∧ v = .slice (some ⟨w.heap.size, 0, none⟩) k (n + 1) ∧ wr.ownsRow w.heap.size 9 1 (.slice (some ⟨w.heap.size, 0, none⟩) k (n + 1)) k (strs s k) ∧ Below w.heap.size w wr) (fun _ i _ => n - (intOf i).toNat)
    case atStart => exact ⟨0, Nat.zero_le _, rfl, rfl, hown1, (Below.refl _ _).grown hgrow1 (Nat.le_refl _) (fun _ h => by cases h)⟩
    case round =>
      obtain ⟨k, hk, rfl, rfl, hown, hbel⟩ := hrel
      clear hown1 hgrow1
      by_cases hlt : k < n
      · obtain ⟨_, b, off, h1, h2⟩ := hr.out
        obtain ⟨rfl, _, hbt⟩ := h1 (by omega)
        have hck := (hbel.cell (p := ⟨b, off + k, none⟩) hbt).trans (h2 k hlt)
        have hlt' : (k : Int) < (n : Int) := by omega
        clear h1 h2
        go_wp2_with (at_builtin; refine wpList_append_fits _ rfl _ _ 22 rfl w.heap.size 9 i0 1 Yba.underlying22 hi hz1 w.heap.size k (n + 1) (strs s k) rfl (hown.alloc _) ⟨wr.heap.size, 0, none⟩ 1 1 [.string (s k)] rfl rfl (new_string _ _) (one_string _) (by omega) ?_; intro w2 hown2 hgrow2; have hb2 : Below w.heap.size w w2 := (hbel.alloc hbel.size _).grown hgrow2 (by have := hbel.size; simp; omega) (fun j hj => by cases hj; exact Nat.le_refl _); rw [← strs_succ] at hown2; clear hown hgrow2 hck hbel)
        go_roundw
        case rel => exact ⟨k + 1, by omega, by go_num, rfl, hown2, hb2⟩
        case measure => simp [intOf]; omega
      · obtain rfl : k = n := by omega
        go_wp2_with (at_builtin; refine wpList_append_fits _ rfl _ _ 22 rfl w.heap.size 9 i0 1 Yba.underlying22 hi hz1 w.heap.size k (k + 1) (strs s k) rfl (hown.alloc _) ⟨wr.heap.size, 0, none⟩ 1 1 [.string x] rfl rfl (new_string _ _) (one_string _) (by omega) ?_; intro w2 hown2 hgrow2; have hb2 : Below w.heap.size w w2 := (hbel.alloc hbel.size _).grown hgrow2 (by have := hbel.size; simp; omega) (fun j hj => by cases hj; exact Nat.le_refl _); rw [← hx.out (by first | rfl | trivial), ← strs_succ] at hown2; clear hown hgrow2 hbel)
        go_ret
        exact ⟨rfl, Row.own hown2 (Nat.le_refl _), hb2⟩

set_option maxHeartbeats 400000 in
theorem copy_nil (n cap : Nat) (x : ByteArray) (w : World) :
    Calls Yba.prog 4 #[.slice none n cap, .string x, .bool false] w fun e w' => e = .returned (.slice none 0 0) ∧ w' = w := by
  have q22 : ∀ (w : World) (a : Option Addr) (n c n' c' : Nat), (binOp .eql 22 (.slice a n c) (.slice none n' c')).run Yba.prog w = .ok (.bool a.isNone) w := fun w a n c n' c' => Lib.run_eql_slice_nil w _ _ a n c n' c' Yba.underlying22
  go_enter Yba.func4, Yba.ntmps4
  go_wp2
  go_ret
  exact ⟨rfl, rfl⟩

/-- 'zzs8265ccopy(a, x, add)': the strings s 0 .., with x behind them where 'add' says so (s bears x there). -/
theorem copy_any (a : Option Addr) (n cap L : Nat) (s : Nat → ByteArray) (x : ByteArray) (add : Bool) (w : World) (hn : (n : Int) ≤ 8796093022208) (hr : Row w L a n s) (hx : add = true → s n = x) :
    Calls Yba.prog 4 #[.slice a n cap, .string x, .bool add] w fun e w' => ∃ a' c', e = .returned (.slice a' (up n add) c') ∧ a'.isNone = (a.isNone && !add) ∧ Row w' w.heap.size a' (up n add) s ∧ Below w.heap.size w w' := by
  cases hna : a.isNone && !add
  · refine (copy_made a n cap L s x add w hn hr hx hna).mono ?_
    rintro e w' ⟨rfl, h1, h2⟩
    exact ⟨_, _, rfl, rfl, h1, h2⟩
  · rw [Bool.and_eq_true, Bool.not_eq_true'] at hna
    obtain ⟨ha, rfl⟩ := hna
    obtain rfl : a = none := by simpa using ha
    obtain rfl : n = 0 := hr.1 rfl
    refine (copy_nil 0 cap x w).mono ?_
    rintro e w' ⟨rfl, rfl⟩
    exact ⟨none, 0, rfl, rfl, Row.nil _ _ _, Below.refl _ _⟩

set_option maxRecDepth 100000 in
set_option maxHeartbeats 1000000 in
/-- 'zzs8265ceq(a, b)' at two slices of the same strings, both nil or neither. -/
theorem eq_any (a b : Option Addr) (n ca cb L M : Nat) (s : Nat → ByteArray) (w : World) (hn : (n : Int) ≤ 9223372036854775806) (ha : Hid (Row w L a n s)) (hb : Hid (Row w M b n s)) (hab : a.isNone = b.isNone) :
    Calls Yba.prog 8 #[.slice a n ca, .slice b n cb] w fun e w' => e = .returned (.bool true) ∧ ∃ m, w' = w.drewN m := by
  have q22 : ∀ (w : World) (a : Option Addr) (n c n' c' : Nat), (binOp .eql 22 (.slice a n c) (.slice none n' c')).run Yba.prog w = .ok (.bool a.isNone) w := fun w a n c n' c' => Lib.run_eql_slice_nil w _ _ a n c n' c' Yba.underlying22
  go_enter Yba.func8, Yba.ntmps8
  go_wp2_with fail
  go_loopw [5] (fun i wx => ∃ k : Nat, k ≤ n ∧ i = .int .i64 k ∧ ∃ m, wx = w.drewN m) (fun i _ => n - (intOf i).toNat)
  case atStart => exact ⟨0, Nat.zero_le _, rfl, 0, rfl⟩
  case round =>
    obtain ⟨k, hk, rfl, m, rfl⟩ := hrel
    by_cases hlt : k < n
    · obtain ⟨_, b1, o1, h1, h2⟩ := ha.out
      obtain ⟨_, b2, o2, h3, h4⟩ := hb.out
      obtain ⟨rfl, _, _⟩ := h1 (by omega)
      obtain ⟨rfl, _, _⟩ := h3 (by omega)
      have hc1 := h2 k hlt
      have hc2 := h4 k hlt
      have hlt' : (k : Int) < (n : Int) := by omega
      have hk0 : (0 : Int) ≤ (k : Int) := by omega
      clear h1 h2 h3 h4
      go_wp2_with fail
      go_quiet (fail)
      go_wp2
      go_roundw
      case rel => exact ⟨k + 1, by omega, by go_num, m + nq, by first | rfl | rw [World.drewN_drewN]⟩
      case measure => simp [intOf]; omega
    · go_wp2
      go_ret
      exact ⟨rfl, m, rfl⟩
end Go.Proofs.Ybulkfodk
