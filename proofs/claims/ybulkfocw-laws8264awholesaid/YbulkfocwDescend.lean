import Derived.Test.YbulkfocwBuild
import Derived.Deep.AppendLies
import Derived.Lib.SliceRun
namespace Go.Proofs.Ybulkfocw
open Go.RowKit
theorem step_one (b : Nat) : ∀ u ∈ [Value.pointer (some ⟨b, 0, none⟩), .int .i64 0], u.oneCell' = true := by
  intro u h
  simp at h
  rcases h with rfl | rfl <;> rfl
theorem Yba.info36 : (Yba.prog.info? 36).map (fun i => (i.zero, i.size, i.bytes)) = some (some (.agg #[.pointer none, .int .i64 0]), 2, 16) := by kernel_rfl
set_option maxRecDepth 100000 in
set_option maxHeartbeats 1000000 in
theorem descend_any (G C n : Nat) (N K wd : Nat → Nat) (w : World) (hn : (n : Int) ≤ 65536) (hwd : ∀ i, 1 ≤ wd i) (hP : Part w C n 0 N K wd) (hNG : ∀ i, i ≤ n → N i < G) (hKG : ∀ i, i < n → K i < G) (hG : G < w.heap.size)
    (c0 : w.cell? ⟨G, 0, none⟩ = some (.slice none 0 0)) (c1 : w.cell? ⟨G, 1, none⟩ = some (.slice none 0 0)) (f0 : w.frozen? ⟨G, 0, none⟩ = false) :
    Calls Yba.prog 6 #[.pointer (some ⟨G, 0, none⟩), .pointer (some ⟨N 0, 0, none⟩)] w fun e w' => e = .returned (.tuple #[]) ∧
      (∃ g cap, w'.cell? ⟨G, 0, none⟩ = some (.slice (some ⟨g, 0, none⟩) (n + 1) cap) ∧ w'.ownsRow w.heap.size 36 2 (.slice (some ⟨g, 0, none⟩) (n + 1) cap) (n + 1) (steps N (n + 1))) ∧ w'.cell? ⟨G, 1, none⟩ = some (.slice none 0 0) ∧ G < w'.heap.size ∧ Below G w w' := by
  obtain ⟨i0, hi, hz0, hz1, hz2⟩ := info_parts Yba.info36
  have q25 : ∀ (w : World) (a : Option Addr) (n c n' c' : Nat), (binOp .eql 25 (.slice a n c) (.slice none n' c')).run Yba.prog w = .ok (.bool a.isNone) w := fun w a n c n' c' => Lib.run_eql_slice_nil w _ _ a n c n' c' Yba.underlying25
  go_enter Yba.func6, Yba.ntmps6
  go_wp2_with fail
  go_loopg [1] n (fun gh p wx => ∃ i : Nat, i ≤ n ∧ n ≤ gh + i ∧ p = .pointer (some ⟨N i, 0, none⟩) ∧ (∃ v, wx.cell? ⟨G, 0, none⟩ = some v ∧ wx.ownsRow w.heap.size 36 2 v i (steps N i)) ∧ wx.frozen? ⟨G, 0, none⟩ = false ∧ wx.cell? ⟨G, 1, none⟩ = some (.slice none 0 0) ∧ w.heap.size ≤ wx.heap.size ∧ Below G w wx)
  case atStart => exact ⟨0, by omega, by omega, rfl, ⟨_, c0, World.ownsRow_nil _ _ _ _⟩, f0, c1, Nat.le_refl _, Below.refl _ _⟩
  case round =>
    obtain ⟨i, hi1, hi2, rfl, ⟨v, hcv, hown⟩, hfz, hc1, hsz, hbel⟩ := hrel
    have hGx : G < wr.heap.size := by omega
    have hcv' : ∀ o, (wr.alloc o).cell? ⟨G, 0, none⟩ = some v := fun o => (World.cell?_alloc_lt _ _ _ hGx).trans hcv
    have hGf' : ∀ o, (wr.alloc o).frozen? ⟨G, 0, none⟩ = false := fun o => (World.frozen?_alloc_old _ _ _ (Nat.ne_of_lt hGx)).trans hfz
    have hc1' : ∀ o, (wr.alloc o).cell? ⟨G, 1, none⟩ = some (.slice none 0 0) := fun o => (World.cell?_alloc_lt _ _ _ hGx).trans hc1
    have hNi := hNG i hi1
    have hrow : ∀ k, v.ownBlock = some k → w.heap.size ≤ k := fun k hk => own_base hown k hk
    have hne : some G ≠ v.ownBlock := fun h => by have := hrow G h.symm; omega
    have Hrow := (show Hid _ from hrow)
    have Hne := (show Hid _ from hne)
    clear hrow hne
    by_cases hin : i < n
    · have hPn := (hP.node i (Nat.zero_le _) hi1).2.2
      rw [kids, if_pos hin] at hPn
      have hPk := (hP.kid i (Nat.zero_le _) hin).2.2
      have hKi := hKG i hin
      have hw1 : (0 : Int) < ((wd i : Nat) : Int) := by have := hwd i; omega
      go_wp2_with (at_builtin; refine wpList_append_lies _ rfl _ _ 32 rfl w.heap.size 36 i0 _ 2 16 Yba.underlying32 hi hz0 hz1 hz2 rfl (by omega) v i (steps N i) rfl (hown.alloc _) ⟨wr.heap.size, 0, none⟩ 1 1 [.pointer (some ⟨N i, 0, none⟩), .int .i64 0] rfl rfl (World.news_of_block (heap_alloc_new _ _)) (step_one _) (by omega) (by unfold maxLen; omega) (by omega) (by simp; omega) (wr.heap.size + 1) (by simp) ?_; intro g cap w1 hown1 hgrow hat hlt1; have hb1 : Below G w w1 := (hbel.alloc (Nat.le_of_lt hGx) _).grown hgrow (by simp; omega) (fun k hk => by have := Hrow.out k hk; omega); have hn1 := (hb1.cell (p := ⟨N i, 2, none⟩) hNi).trans hPn; have hk1 := (hb1.cell (p := ⟨K i, 0, none⟩) hKi).trans hPk; have hG0 := (hgrow.cell_far ⟨G, 0, none⟩ (by simp; omega) Hne.out).trans (hcv' _); have hGf := (hgrow.frozen_far ⟨G, 0, none⟩ (by simp; omega) Hne.out).trans (hGf' _); have hG1 := (hgrow.cell_far ⟨G, 1, none⟩ (by simp; omega) Hne.out).trans (hc1' _))
      go_roundg (gk - 1)
      case measure => omega
      case rel =>
        have hs1 := hgrow.size
        simp at hs1
        rw [← steps_succ] at hown1
        refine ⟨i + 1, by omega, by omega, rfl, ⟨_, World.cell?_setCell_same _ _ _ hG0, ownsRow_setCell_below hown1 hG _⟩, by simpa using hGf, ?_, by simp [World.setCell]; omega, hb1.setCell (Nat.le_refl _) _⟩
        rw [World.cell?_setCell_other _ _ _ _ (by intro e; injection e; omega)]
        exact hG1
    · obtain rfl : n = i := by omega
      have hPn := (hP.node n (Nat.zero_le _) hi1).2.2
      rw [kids, if_neg hin] at hPn
      go_wp2_with (at_builtin; refine wpList_append_lies _ rfl _ _ 32 rfl w.heap.size 36 i0 _ 2 16 Yba.underlying32 hi hz0 hz1 hz2 rfl (by omega) v n (steps N n) rfl (hown.alloc _) ⟨wr.heap.size, 0, none⟩ 1 1 [.pointer (some ⟨N n, 0, none⟩), .int .i64 0] rfl rfl (World.news_of_block (heap_alloc_new _ _)) (step_one _) (by omega) (by unfold maxLen; omega) (by omega) (by simp; omega) (wr.heap.size + 1) (by simp) ?_; intro g cap w1 hown1 hgrow hat hlt1; have hb1 : Below G w w1 := (hbel.alloc (Nat.le_of_lt hGx) _).grown hgrow (by simp; omega) (fun k hk => by have := Hrow.out k hk; omega); have hn1 := (hb1.cell (p := ⟨N n, 2, none⟩) hNi).trans hPn; have hG0 := (hgrow.cell_far ⟨G, 0, none⟩ (by simp; omega) Hne.out).trans (hcv' _); have hGf := (hgrow.frozen_far ⟨G, 0, none⟩ (by simp; omega) Hne.out).trans (hGf' _); have hG1 := (hgrow.cell_far ⟨G, 1, none⟩ (by simp; omega) Hne.out).trans (hc1' _))
      refine bodyPost_ret (v := .tuple #[]) (results_none rfl _ _ _) rfl ?_
      have hs1 := hgrow.size
      simp at hs1
      rw [← steps_succ] at hown1
      refine ⟨rfl, ⟨_, _, World.cell?_setCell_same _ _ _ hG0, ownsRow_setCell_below hown1 hG _⟩, ?_, by simp [World.setCell]; omega, hb1.setCell (Nat.le_refl _) _⟩
      rw [World.cell?_setCell_other _ _ _ _ (by intro e; injection e; omega)]
      exact hG1

set_option maxRecDepth 100000 in
set_option maxHeartbeats 1000000 in
theorem cursor_any (C n : Nat) (N K wd : Nat → Nat) (w : World) (hn : (n : Int) ≤ 65536) (hwd : ∀ i, 1 ≤ wd i) (hP : Part w C n 0 N K wd) :
    Calls Yba.prog 5 #[.agg #[.pointer (some ⟨N 0, 0, none⟩)]] w fun e w' => e = .returned (.pointer (some ⟨w.heap.size + 1, 0, none⟩)) ∧
      (∃ g cap, w'.cell? ⟨w.heap.size + 1, 0, none⟩ = some (.slice (some ⟨g, 0, none⟩) (n + 1) cap) ∧ w'.ownsRow (w.heap.size + 2) 36 2 (.slice (some ⟨g, 0, none⟩) (n + 1) cap) (n + 1) (steps N (n + 1))) ∧
      w'.cell? ⟨w.heap.size + 1, 1, none⟩ = some (.slice none 0 0) ∧ w.heap.size + 1 < w'.heap.size ∧ Below w.heap.size w w' := by
  go_enter Yba.func5, Yba.ntmps5
  go_wp2_with fail
  have hb : Below w.heap.size w ((w.alloc (.cells #[.pointer (some ⟨N 0, 0, none⟩)] 29)).alloc (.cells #[.slice none 0 0, .slice none 0 0] 34)) := ((Below.refl _ _).alloc (Nat.le_refl _) _).alloc (by simp) _
  refine (descend_any (w.heap.size + 1) C n N K wd _ hn hwd (hP.keep hb) (fun i h => by have := (hP.node i (Nat.zero_le _) h).2.1; omega) (fun i h => by have := (hP.kid i (Nat.zero_le _) h).2.1; omega) (by simp) (by go_simp) (by go_simp) (by go_simp)).mono ?_
  rintro e w1 ⟨rfl, ⟨g, cap, hg0, hown⟩, hg1, hlt, hb1⟩
  go_wp2
  go_ret
  refine ⟨rfl, ⟨g, cap, hg0, by simpa using hown⟩, hg1, hlt, hb.trans (hb1.mono (by omega))⟩
end Go.Proofs.Ybulkfocw
