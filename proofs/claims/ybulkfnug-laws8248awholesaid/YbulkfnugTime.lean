import Derived.Test.YbulkfnugRows
import Derived.Test.YbulkfnugBits
import Derived.WalkKit
import Derived.WalkLawsBesides
import Derived.WalkSpells
import Derived.Outline
import Derived.Below
namespace Go.Proofs.Ybulkfnug
open Go.RowKit
set_option maxHeartbeats 400000 in
theorem nsec_any (g : Nat) (o : Nat) (a : Int) (w : World) (h0 : 0 ≤ a) (h1 : a < 1000000000) (hc : w.cell? ⟨g, o, none⟩ = some (.int .u64 a)) :
    Calls Yba.prog 10 #[.pointer (some ⟨g, o, none⟩)] w fun e w' => e = .returned (.int .i32 a) ∧ w' = w := by
  have hm := Plain.and_mask a h0 (by omega)
  go_enter Yba.func10, Yba.ntmps10
  go_wp2
  go_ret
  exact ⟨rfl, rfl⟩
set_option maxHeartbeats 400000 in
theorem sec_any (g : Nat) (o : Nat) (a s : Int) (w : World) (h0 : 0 ≤ a) (h1 : a < 1000000000) (hc : w.cell? ⟨g, o, none⟩ = some (.int .u64 a)) (hc1 : w.cell? ⟨g, o + 1, none⟩ = some (.int .i64 s)) :
    Calls Yba.prog 13 #[.pointer (some ⟨g, o, none⟩)] w fun e w' => e = .returned (.int .i64 s) ∧ w' = w := by
  have hm := Plain.and_top a h0 (by omega)
  go_enter Yba.func13, Yba.ntmps13
  go_wp2
  go_ret
  exact ⟨rfl, rfl⟩
set_option maxHeartbeats 400000 in
theorem addSec_any (g : Nat) (o : Nat) (a s d : Int) (w : World) (h0 : 0 ≤ a) (h1 : a < 1000000000) (hs0 : -100000000000 ≤ s) (hs1 : s ≤ 100000000000) (hd0 : -100000000000 ≤ d) (hd1 : d ≤ 100000000000)
  (hc : w.cell? ⟨g, o, none⟩ = some (.int .u64 a)) (hc1 : w.cell? ⟨g, o + 1, none⟩ = some (.int .i64 s)) (hf : w.frozen? ⟨g, o + 1, none⟩ = false) :
    Calls Yba.prog 11 #[.pointer (some ⟨g, o, none⟩), .int .i64 d] w fun e w' => e = .returned (.tuple #[]) ∧ w' = w.setCell ⟨g, o + 1, none⟩ (.int .i64 (s + d)) := by
  have hm := Plain.and_top a h0 (by omega)
  by_cases hp : 0 < d
  · have hq : decide (s < s + d) = true := by simp; omega
    go_enter Yba.func11, Yba.ntmps11
    go_wp2
    go_end0
    exact ⟨rfl, rfl⟩
  · have hq : decide (s < s + d) = false := by simp; omega
    go_enter Yba.func11, Yba.ntmps11
    go_wp2
    go_end0
    exact ⟨rfl, rfl⟩
set_option maxHeartbeats 400000 in
theorem add_mid (a s d : Int) (w : World) (h0 : 0 ≤ a) (h1 : a < 1000000000) (hs0 : -50000000000 ≤ s) (hs1 : s ≤ 50000000000) (hd0 : -9223372036854775808 ≤ d) (hd1 : d ≤ 9223372036854775807)
   (hx : a + d.tmod 1000000000 < 1000000000) (hx0 : 0 ≤ a + d.tmod 1000000000) :
    Calls Yba.prog 6 #[.agg #[.int .u64 a, .int .i64 s, .pointer none], .int .i64 d] w fun e w' => e = .returned (.agg #[.int .u64 (a + d.tmod 1000000000), .int .i64 (s + d.tdiv 1000000000), .pointer none]) ∧ Below w.heap.size w w' := by
  obtain ⟨hb0, hb1⟩ := Plain.quo_bd d hd0 hd1
  have hr0 := (Plain.quo_rem d).2.1
  have hr1 := (Plain.quo_rem d).2.2
  have hn := Plain.andNot_mask a h0 (by omega)
  have ho := Plain.or_zero (a + d.tmod 1000000000) (by omega) (by omega)
  have ht := Plain.and_top (a + d.tmod 1000000000) (by omega) (by omega)
  go_enter Yba.func6, Yba.ntmps6
  go_wp2_with fail
  refine (nsec_any w.heap.size 0 a _ h0 h1 (by simp [*])).mono ?_
  rintro e w' ⟨rfl, rfl⟩
  go_wp2_with fail
  refine (addSec_any w.heap.size 0 (a + d.tmod 1000000000) s (d.tdiv 1000000000) _ (by omega) (by omega) (by omega) (by omega) (by omega) (by omega) (by simp [*]) (by simp [*]) (by simp [*])).mono ?_
  rintro e w' ⟨rfl, rfl⟩
  go_wp2_with fail
  refine bodyPost_ret (v := .agg #[.int .u64 (a + d.tmod 1000000000), .int .i64 (s + d.tdiv 1000000000), .pointer none]) (by simp [results, Yba.results6, go_sem]) rfl ⟨rfl, ?_⟩
  exact ((Below.refl _ _).alloc (Nat.le_refl _) _).alloc (by simp) _
set_option maxHeartbeats 400000 in
theorem add_up (a s d : Int) (w : World) (h0 : 0 ≤ a) (h1 : a < 1000000000) (hs0 : -50000000000 ≤ s) (hs1 : s ≤ 50000000000) (hd0 : -9223372036854775808 ≤ d) (hd1 : d ≤ 9223372036854775807)
   (hx : 1000000000 ≤ a + d.tmod 1000000000) :
    Calls Yba.prog 6 #[.agg #[.int .u64 a, .int .i64 s, .pointer none], .int .i64 d] w fun e w' => e = .returned (.agg #[.int .u64 (a + d.tmod 1000000000 - 1000000000), .int .i64 (s + (d.tdiv 1000000000 + 1)), .pointer none]) ∧ Below w.heap.size w w' := by
  obtain ⟨hb0, hb1⟩ := Plain.quo_bd d hd0 hd1
  have hr0 := (Plain.quo_rem d).2.1
  have hr1 := (Plain.quo_rem d).2.2
  have hn := Plain.andNot_mask a h0 (by omega)
  have ho := Plain.or_zero (a + d.tmod 1000000000 - 1000000000) (by omega) (by omega)
  have ht := Plain.and_top (a + d.tmod 1000000000 - 1000000000) (by omega) (by omega)
  go_enter Yba.func6, Yba.ntmps6
  go_wp2_with fail
  refine (nsec_any w.heap.size 0 a _ h0 h1 (by simp [*])).mono ?_
  rintro e w' ⟨rfl, rfl⟩
  go_wp2_with fail
  refine (addSec_any w.heap.size 0 (a + d.tmod 1000000000 - 1000000000) s ((d.tdiv 1000000000 + 1)) _ (by omega) (by omega) (by omega) (by omega) (by omega) (by omega) (by simp [*]) (by simp [*]) (by simp [*])).mono ?_
  rintro e w' ⟨rfl, rfl⟩
  go_wp2_with fail
  refine bodyPost_ret (v := .agg #[.int .u64 (a + d.tmod 1000000000 - 1000000000), .int .i64 (s + (d.tdiv 1000000000 + 1)), .pointer none]) (by simp [results, Yba.results6, go_sem]) rfl ⟨rfl, ?_⟩
  exact ((Below.refl _ _).alloc (Nat.le_refl _) _).alloc (by simp) _
set_option maxHeartbeats 400000 in
theorem add_down (a s d : Int) (w : World) (h0 : 0 ≤ a) (h1 : a < 1000000000) (hs0 : -50000000000 ≤ s) (hs1 : s ≤ 50000000000) (hd0 : -9223372036854775808 ≤ d) (hd1 : d ≤ 9223372036854775807)
   (hx : a + d.tmod 1000000000 < 0) :
    Calls Yba.prog 6 #[.agg #[.int .u64 a, .int .i64 s, .pointer none], .int .i64 d] w fun e w' => e = .returned (.agg #[.int .u64 (a + d.tmod 1000000000 + 1000000000), .int .i64 (s + (d.tdiv 1000000000 - 1)), .pointer none]) ∧ Below w.heap.size w w' := by
  obtain ⟨hb0, hb1⟩ := Plain.quo_bd d hd0 hd1
  have hr0 := (Plain.quo_rem d).2.1
  have hr1 := (Plain.quo_rem d).2.2
  have hn := Plain.andNot_mask a h0 (by omega)
  have ho := Plain.or_zero (a + d.tmod 1000000000 + 1000000000) (by omega) (by omega)
  have ht := Plain.and_top (a + d.tmod 1000000000 + 1000000000) (by omega) (by omega)
  go_enter Yba.func6, Yba.ntmps6
  go_wp2_with fail
  refine (nsec_any w.heap.size 0 a _ h0 h1 (by simp [*])).mono ?_
  rintro e w' ⟨rfl, rfl⟩
  go_wp2_with fail
  refine (addSec_any w.heap.size 0 (a + d.tmod 1000000000 + 1000000000) s ((d.tdiv 1000000000 - 1)) _ (by omega) (by omega) (by omega) (by omega) (by omega) (by omega) (by simp [*]) (by simp [*]) (by simp [*])).mono ?_
  rintro e w' ⟨rfl, rfl⟩
  go_wp2_with fail
  refine bodyPost_ret (v := .agg #[.int .u64 (a + d.tmod 1000000000 + 1000000000), .int .i64 (s + (d.tdiv 1000000000 - 1)), .pointer none]) (by simp [results, Yba.results6, go_sem]) rfl ⟨rfl, ?_⟩
  exact ((Below.refl _ _).alloc (Nat.le_refl _) _).alloc (by simp) _

theorem add_any (m d : Int) (w : World) (hm0 : -9223372036854775808 ≤ m) (hm1 : m ≤ 9223372036854775807) (hd0 : -9223372036854775808 ≤ d) (hd1 : d ≤ 9223372036854775807) :
    Calls Yba.prog 6 #[.agg #[.int .u64 (Plain.wl m), .int .i64 (Plain.ex m), .pointer none], .int .i64 d] w fun e w' => e = .returned (.agg #[.int .u64 (Plain.wl (m + d)), .int .i64 (Plain.ex (m + d)), .pointer none]) ∧ Below w.heap.size w w' := by
  obtain ⟨hl0, hl1⟩ := Plain.wl_bd m
  obtain ⟨he0, he1⟩ := Plain.ex_bd m hm0 hm1
  obtain ⟨hq, hr0, hr1⟩ := Plain.quo_rem d
  by_cases hu : 1000000000 ≤ Plain.wl m + d.tmod 1000000000
  · obtain ⟨e1, e2⟩ := Plain.part_up m _ _ d hq hu hr1
    unfold Plain.wl Plain.ex
    rw [← e1, ← e2]
    exact add_up _ _ d w hl0 hl1 (by unfold Plain.ex at he0; omega) (by unfold Plain.ex at he1; omega) hd0 hd1 hu
  · by_cases hd : Plain.wl m + d.tmod 1000000000 < 0
    · obtain ⟨e1, e2⟩ := Plain.part_down m _ _ d hq hd hr0
      unfold Plain.wl Plain.ex
      rw [← e1, ← e2]
      exact add_down _ _ d w hl0 hl1 (by unfold Plain.ex at he0; omega) (by unfold Plain.ex at he1; omega) hd0 hd1 hd
    · obtain ⟨e1, e2⟩ := Plain.part m _ _ d hq (by unfold Plain.wl at hd; omega) (by unfold Plain.wl at hu; omega)
      unfold Plain.wl Plain.ex
      rw [← e1, ← e2]
      exact add_mid _ _ d w hl0 hl1 (by unfold Plain.ex at he0; omega) (by unfold Plain.ex at he1; omega) hd0 hd1 (by unfold Plain.wl at hu; omega) (by unfold Plain.wl at hd; omega)

/-- Of a zero moment. -/
theorem add_zero (n : Int) (w : World) (h0 : -9223372036854775808 ≤ n) (h1 : n ≤ 9223372036854775807) :
    Calls Yba.prog 6 #[.agg #[.int .u64 0, .int .i64 0, .pointer none], .int .i64 n] w fun e w' => e = .returned (.agg #[.int .u64 (Plain.wl n), .int .i64 (Plain.ex n), .pointer none]) ∧ Below w.heap.size w w' := by
  have hz := add_any 0 n w (by omega) (by omega) h0 h1
  rwa [show Plain.wl 0 = 0 from rfl, show Plain.ex 0 = 0 from rfl, Int.zero_add] at hz

/-- What a world that is as the old one below a new block holds there. -/
theorem bcell {W w1 : World} (hb : Below W.heap.size W w1) : (∀ b o, b < W.heap.size → w1.cell? ⟨b, o, none⟩ = W.cell? ⟨b, o, none⟩) ∧ (∀ b o, b < W.heap.size → w1.frozen? ⟨b, o, none⟩ = W.frozen? ⟨b, o, none⟩) :=
  ⟨fun b o h => hb.cell (p := ⟨b, o, none⟩) h, fun b o h => hb.frozen (p := ⟨b, o, none⟩) h⟩

set_option maxHeartbeats 400000 in
/-- 'zzs8248aat(n)': the moment n nanoseconds past the zero time. -/
theorem at_any (n : Int) (w : World) (h0 : -9223372036854775808 ≤ n) (h1 : n ≤ 9223372036854775807) :
    Calls Yba.prog 4 #[.int .i64 n] w fun e w' => e = .returned (.agg #[.int .u64 (Plain.wl n), .int .i64 (Plain.ex n), .pointer none]) ∧ Below w.heap.size w w' := by
  go_enter Yba.func4, Yba.ntmps4
  go_wp2_with fail
  refine (add_zero n _ h0 h1).mono ?_
  rintro e w1 ⟨rfl, hb⟩
  obtain ⟨hc, hf⟩ := bcell hb
  have hs : w.heap.size < w1.heap.size := by have := hb.size; simp at this; omega
  go_wp2
  refine bodyPost_ret (v := .agg #[.int .u64 (Plain.wl n), .int .i64 (Plain.ex n), .pointer none]) (by simp [results, Yba.results4, go_sem, hc]) rfl ⟨rfl, ?_⟩
  exact (((((Below.refl _ _).alloc (Nat.le_refl _) _).trans (hb.mono (by simp))).setCell (Nat.le_refl _) _).setCell (Nat.le_refl _) _).setCell (Nat.le_refl _) _

set_option maxHeartbeats 400000 in
/-- 'shift(u, seconds)'. -/
theorem shift_any (m s : Int) (w : World) (hm0 : -9223372036854775808 ≤ m) (hm1 : m ≤ 9223372036854775807) (hs0 : -1048576 ≤ s) (hs1 : s ≤ 1048576) :
    Calls Yba.prog 7 #[.agg #[.int .u64 (Plain.wl m), .int .i64 (Plain.ex m), .pointer none], .int .i64 s] w fun e w' => e = .returned (.agg #[.int .u64 (Plain.wl (m + s * 1000000000)), .int .i64 (Plain.ex (m + s * 1000000000)), .pointer none]) ∧ Below w.heap.size w w' := by
  go_enter Yba.func7, Yba.ntmps7
  go_wp2_with fail
  refine (add_any m (s * 1000000000) _ hm0 hm1 (by omega) (by omega)).mono ?_
  rintro e w1 ⟨rfl, hb⟩
  obtain ⟨hc, hf⟩ := bcell hb
  have hs : w.heap.size + 1 < w1.heap.size := by have := hb.size; simp at this; omega
  go_wp2
  refine bodyPost_ret (v := .agg #[.int .u64 (Plain.wl (m + s * 1000000000)), .int .i64 (Plain.ex (m + s * 1000000000)), .pointer none]) (by simp [results, Yba.results7, go_sem, hc]) rfl ⟨rfl, ?_⟩
  exact ((((((Below.refl _ _).alloc (Nat.le_refl _) _).alloc (by simp) _).trans (hb.mono (by simp; omega))).setCell (by simp) _).setCell (by simp) _).setCell (by simp) _

/-! 'Before': an earlier second; one second; a later one. -/
set_option maxHeartbeats 400000 in
theorem before_lt (a s b t : Int) (w : World) (a0 : 0 ≤ a) (a1 : a < 1000000000) (b0 : 0 ≤ b) (b1 : b < 1000000000) (h : s < t) :
    Calls Yba.prog 8 #[.agg #[.int .u64 a, .int .i64 s, .pointer none], .agg #[.int .u64 b, .int .i64 t, .pointer none]] w fun e w' => e = .returned (.bool true) ∧ Below w.heap.size w w' := by
  obtain ⟨c0, c1⟩ := Plain.and_bd a b a0 (by omega) b0 (by omega)
  have ht := Plain.and_top _ c0 (by omega)
  go_enter Yba.func8, Yba.ntmps8
  go_wp2_with fail
  refine (sec_any w.heap.size 0 a s _ a0 a1 (by simp [*]) (by simp [*])).mono ?_
  rintro e w' ⟨rfl, rfl⟩
  go_wp2_with fail
  refine (sec_any (w.heap.size + 1) 0 b t _ b0 b1 (by simp [*]) (by simp [*])).mono ?_
  rintro e w' ⟨rfl, rfl⟩
  go_wp2_with fail
  go_ret
  exact ⟨rfl, ((Below.refl _ _).alloc (Nat.le_refl _) _).alloc (by simp) _⟩
set_option maxHeartbeats 400000 in
theorem before_gt (a s b t : Int) (w : World) (a0 : 0 ≤ a) (a1 : a < 1000000000) (b0 : 0 ≤ b) (b1 : b < 1000000000) (h : t < s) :
    Calls Yba.prog 8 #[.agg #[.int .u64 a, .int .i64 s, .pointer none], .agg #[.int .u64 b, .int .i64 t, .pointer none]] w fun e w' => e = .returned (.bool false) ∧ Below w.heap.size w w' := by
  obtain ⟨c0, c1⟩ := Plain.and_bd a b a0 (by omega) b0 (by omega)
  have ht := Plain.and_top _ c0 (by omega)
  have hne : (s == t) = false := beq_eq_false_iff_ne.2 (by omega)
  have hlt : decide (s < t) = false := decide_eq_false (by omega)
  go_enter Yba.func8, Yba.ntmps8
  go_wp2_with fail
  refine (sec_any w.heap.size 0 a s _ a0 a1 (by simp [*]) (by simp [*])).mono ?_
  rintro e w' ⟨rfl, rfl⟩
  go_wp2_with fail
  refine (sec_any (w.heap.size + 1) 0 b t _ b0 b1 (by simp [*]) (by simp [*])).mono ?_
  rintro e w' ⟨rfl, rfl⟩
  go_wp2_with fail
  go_ret
  exact ⟨rfl, ((Below.refl _ _).alloc (Nat.le_refl _) _).alloc (by simp) _⟩
set_option maxHeartbeats 400000 in
theorem before_eq (a s b : Int) (w : World) (a0 : 0 ≤ a) (a1 : a < 1000000000) (b0 : 0 ≤ b) (b1 : b < 1000000000)  :
    Calls Yba.prog 8 #[.agg #[.int .u64 a, .int .i64 s, .pointer none], .agg #[.int .u64 b, .int .i64 s, .pointer none]] w fun e w' => e = .returned (.bool (decide (a < b))) ∧ Below w.heap.size w w' := by
  obtain ⟨c0, c1⟩ := Plain.and_bd a b a0 (by omega) b0 (by omega)
  have ht := Plain.and_top _ c0 (by omega)
  go_enter Yba.func8, Yba.ntmps8
  go_wp2_with fail
  refine (sec_any w.heap.size 0 a s _ a0 a1 (by simp [*]) (by simp [*])).mono ?_
  rintro e w' ⟨rfl, rfl⟩
  go_wp2_with fail
  refine (sec_any (w.heap.size + 1) 0 b s _ b0 b1 (by simp [*]) (by simp [*])).mono ?_
  rintro e w' ⟨rfl, rfl⟩
  go_wp2_with fail
  refine (nsec_any w.heap.size 0 a _ a0 a1 (by simp [*])).mono ?_
  rintro e w' ⟨rfl, rfl⟩
  go_wp2_with fail
  refine (nsec_any (w.heap.size + 1) 0 b _ b0 b1 (by simp [*])).mono ?_
  rintro e w' ⟨rfl, rfl⟩
  go_wp2_with fail
  go_ret
  exact ⟨rfl, ((Below.refl _ _).alloc (Nat.le_refl _) _).alloc (by simp) _⟩

/-- 'm.Before(k)'. -/
theorem before_any (m k : Int) (w : World) :
    Calls Yba.prog 8 #[.agg #[.int .u64 (Plain.wl m), .int .i64 (Plain.ex m), .pointer none], .agg #[.int .u64 (Plain.wl k), .int .i64 (Plain.ex k), .pointer none]] w fun e w' => e = .returned (.bool (decide (m < k))) ∧ Below w.heap.size w w' := by
  obtain ⟨a0, a1⟩ := Plain.wl_bd m
  obtain ⟨b0, b1⟩ := Plain.wl_bd k
  rw [show decide (m < k) = decide (Plain.ex m < Plain.ex k ∨ Plain.ex m = Plain.ex k ∧ Plain.wl m < Plain.wl k) from decide_eq_decide.2 (Plain.lt_iff m k)]
  rcases Int.lt_trichotomy (Plain.ex m) (Plain.ex k) with h | h | h
  · rw [decide_eq_true (Or.inl h)]
    exact before_lt _ _ _ _ w a0 a1 b0 b1 h
  · rw [← h, show decide (Plain.ex m < Plain.ex m ∨ Plain.ex m = Plain.ex m ∧ Plain.wl m < Plain.wl k) = decide (Plain.wl m < Plain.wl k) from decide_eq_decide.2 (by omega)]
    exact before_eq _ _ _ w a0 a1 b0 b1
  · rw [decide_eq_false (by omega)]
    exact before_gt _ _ _ _ w a0 a1 b0 b1 h
end Go.Proofs.Ybulkfnug
