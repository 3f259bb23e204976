import Derived.Test.YbulkfnugTime
import Derived.Deep.RegionHeld3
import Derived.Deep.DeepCutAuto
import Derived.Deep.QuietTactic
import Derived.BigQuiet
namespace Go.Proofs.Ybulkfnug
open Go.RowKit

set_option maxRecDepth 100000 in
set_option maxHeartbeats 1000000 in
theorem first_none (g : Nat) (m f : Int) (db cap : Nat)  (w : World) (hm0 : -9223372036854775808 ≤ m) (hm1 : m ≤ 9223372036854775807) (hf0 : -1048576 ≤ f) (hf1 : f ≤ 1048576)
    (hg : g < w.heap.size)
    (c1 : w.cell? ⟨g, 1, none⟩ = some (.int .u64 (Plain.wl m))) (c2 : w.cell? ⟨g, 2, none⟩ = some (.int .i64 (Plain.ex m))) (c3 : w.cell? ⟨g, 3, none⟩ = some (.pointer none))
    (c4 : w.cell? ⟨g, 4, none⟩ = some (.int .i64 f)) (c34 : w.cell? ⟨g, 34, none⟩ = some (.slice (some ⟨db, 0, none⟩) 0 cap)) :
    Calls Yba.prog 5 #[.pointer (some ⟨g, 0, none⟩)] w fun e w' => e = .returned (.agg #[.int .u64 (Plain.wl (m + -f * 1000000000)), .int .i64 (Plain.ex (m + -f * 1000000000)), .pointer none]) ∧ Below w.heap.size w w' := by
  have eg : w.heap.size ≠ g := by omega
  have hwr : IntKind.i64.wrap (-f) = -f := by rw [IntKind.wrap_i64]; omega
  have eg1 : g < w.heap.size + 1 := by omega
  have eg2 : g < w.heap.size + 1 + 1 := by omega
  have eg3 : ¬ w.heap.size + 1 = g := by omega
  go_enter Yba.func5, Yba.ntmps5
  go_upto_region 1 with fail
  go_cut [3] (fun p wc => ∃ ab, p = .pointer (some ⟨ab, 0, none⟩) ∧ w.heap.size < ab ∧ ab < wc.heap.size ∧ wc.cell? ⟨ab, 0, none⟩ = some (.int .u64 (Plain.wl (m + -f * 1000000000))) ∧ wc.cell? ⟨ab, 1, none⟩ = some (.int .i64 (Plain.ex (m + -f * 1000000000))) ∧ wc.cell? ⟨ab, 2, none⟩ = some (.pointer none) ∧ Below (w.heap.size + 1) (w.alloc (.cells #[.int .u64 0, .int .i64 0, .pointer none] 28)) wc)
  case first =>
    go_region_held3 (fun w' => w'.cell? ⟨g, 1, none⟩ = some (.int .u64 (Plain.wl m)) ∧ w'.cell? ⟨g, 2, none⟩ = some (.int .i64 (Plain.ex m)) ∧ w'.cell? ⟨g, 3, none⟩ = some (.pointer none) ∧ w'.cell? ⟨g, 4, none⟩ = some (.int .i64 f)) (go_keep)
      (first | (go_at_call 7; refine (shift_any m (-f) _ hm0 hm1 (by omega) (by omega)).mono ?_; rintro e w' ⟨rfl, hb⟩; obtain ⟨hc, hfz⟩ := bcell hb; have hs := hb.size))
    all_goals (go_wp2_with fail; go_meet)
    · simp at hs
      refine ⟨_, rfl, by omega, by simp, by go_simp, by go_simp, by go_simp, ?_⟩
      exact (((Below.refl _ _).drew).trans (hb.mono (by simp))).alloc (by omega) _
    · simp at hs
      refine ⟨_, rfl, by omega, by simp; omega, by go_simp, by go_simp, by go_simp, ?_⟩
      exact ((((((Below.refl _ _).alloc (by simp) _).drew).trans (hb.mono (by simp))).setCell (by simp) _).setCell (by simp) _).setCell (by simp) _
  case rest =>
  obtain ⟨ab, rfl, hab0, hab1, a0, a1, a2, hb⟩ := hcut
  obtain ⟨hc, hf⟩ := bcell (W := w.alloc (.cells #[.int .u64 0, .int .i64 0, .pointer none] 28)) (by simpa using hb)
  have hr := (hc g 34 (by simp; omega)).trans ((World.cell?_alloc_lt _ _ _ hg).trans c34)
  have ne : ¬ w.heap.size = ab := by omega
  have lt0 : w.heap.size < w.heap.size + 1 := by omega
  go_wp2_with fail
  go_quiet (fail)
  go_wp2
  refine bodyPost_ret (v := .agg #[.int .u64 (Plain.wl (m + -f * 1000000000)), .int .i64 (Plain.ex (m + -f * 1000000000)), .pointer none]) (by simp [results, Yba.results5, go_sem, hc]) rfl ⟨rfl, ?_⟩
  exact (((below_drewN (((Below.refl _ _).alloc (Nat.le_refl _) _).trans (hb.mono (by omega))) _).setCell (Nat.le_refl _) _).setCell (Nat.le_refl _) _).setCell (Nat.le_refl _) _

set_option maxRecDepth 100000 in
set_option maxHeartbeats 1000000 in
theorem first_date (g : Nat) (m f : Int) (db cap : Nat) (n : Nat) (d : Int) (w : World) (hm0 : -9223372036854775808 ≤ m) (hm1 : m ≤ 9223372036854775807) (hf0 : -1048576 ≤ f) (hf1 : f ≤ 1048576)
    (hg : g < w.heap.size)
    (c1 : w.cell? ⟨g, 1, none⟩ = some (.int .u64 (Plain.wl m))) (c2 : w.cell? ⟨g, 2, none⟩ = some (.int .i64 (Plain.ex m))) (c3 : w.cell? ⟨g, 3, none⟩ = some (.pointer none))
    (c4 : w.cell? ⟨g, 4, none⟩ = some (.int .i64 f)) (c34 : w.cell? ⟨g, 34, none⟩ = some (.slice (some ⟨db, 0, none⟩) n cap)) (hdb : db < w.heap.size) (h0n : 0 < n) (d0 : w.cell? ⟨db, 0, none⟩ = some (.int .u64 (Plain.wl d))) (d1 : w.cell? ⟨db, 1, none⟩ = some (.int .i64 (Plain.ex d))) (d2 : w.cell? ⟨db, 2, none⟩ = some (.pointer none)) (hlt : decide (d < (m + -f * 1000000000)) = true) :
    Calls Yba.prog 5 #[.pointer (some ⟨g, 0, none⟩)] w fun e w' => e = .returned (.agg #[.int .u64 (Plain.wl d), .int .i64 (Plain.ex d), .pointer none]) ∧ Below w.heap.size w w' := by
  have eg : w.heap.size ≠ g := by omega
  have hwr : IntKind.i64.wrap (-f) = -f := by rw [IntKind.wrap_i64]; omega
  have eg1 : g < w.heap.size + 1 := by omega
  have eg2 : g < w.heap.size + 1 + 1 := by omega
  have eg3 : ¬ w.heap.size + 1 = g := by omega
  go_enter Yba.func5, Yba.ntmps5
  go_upto_region 1 with fail
  go_cut [3] (fun p wc => ∃ ab, p = .pointer (some ⟨ab, 0, none⟩) ∧ w.heap.size < ab ∧ ab < wc.heap.size ∧ wc.cell? ⟨ab, 0, none⟩ = some (.int .u64 (Plain.wl (m + -f * 1000000000))) ∧ wc.cell? ⟨ab, 1, none⟩ = some (.int .i64 (Plain.ex (m + -f * 1000000000))) ∧ wc.cell? ⟨ab, 2, none⟩ = some (.pointer none) ∧ Below (w.heap.size + 1) (w.alloc (.cells #[.int .u64 0, .int .i64 0, .pointer none] 28)) wc)
  case first =>
    go_region_held3 (fun w' => w'.cell? ⟨g, 1, none⟩ = some (.int .u64 (Plain.wl m)) ∧ w'.cell? ⟨g, 2, none⟩ = some (.int .i64 (Plain.ex m)) ∧ w'.cell? ⟨g, 3, none⟩ = some (.pointer none) ∧ w'.cell? ⟨g, 4, none⟩ = some (.int .i64 f)) (go_keep)
      (first | (go_at_call 7; refine (shift_any m (-f) _ hm0 hm1 (by omega) (by omega)).mono ?_; rintro e w' ⟨rfl, hb⟩; obtain ⟨hc, hfz⟩ := bcell hb; have hs := hb.size))
    all_goals (go_wp2_with fail; go_meet)
    · simp at hs
      refine ⟨_, rfl, by omega, by simp, by go_simp, by go_simp, by go_simp, ?_⟩
      exact (((Below.refl _ _).drew).trans (hb.mono (by simp))).alloc (by omega) _
    · simp at hs
      refine ⟨_, rfl, by omega, by simp; omega, by go_simp, by go_simp, by go_simp, ?_⟩
      exact ((((((Below.refl _ _).alloc (by simp) _).drew).trans (hb.mono (by simp))).setCell (by simp) _).setCell (by simp) _).setCell (by simp) _
  case rest =>
  obtain ⟨ab, rfl, hab0, hab1, a0, a1, a2, hb⟩ := hcut
  obtain ⟨hc, hf⟩ := bcell (W := w.alloc (.cells #[.int .u64 0, .int .i64 0, .pointer none] 28)) (by simpa using hb)
  have hr := (hc g 34 (by simp; omega)).trans ((World.cell?_alloc_lt _ _ _ hg).trans c34)
  have ne : ¬ w.heap.size = ab := by omega
  have lt0 : w.heap.size < w.heap.size + 1 := by omega
  have d0' := (hc db 0 (by simp; omega)).trans ((World.cell?_alloc_lt _ _ _ hdb).trans d0)
  have d1' := (hc db 1 (by simp; omega)).trans ((World.cell?_alloc_lt _ _ _ hdb).trans d1)
  have d2' := (hc db 2 (by simp; omega)).trans ((World.cell?_alloc_lt _ _ _ hdb).trans d2)
  have hn : (0 : Int) < ((n : Nat) : Int) := by omega
  have eg4 : g < wc.heap.size := by omega
  have db4 : db < wc.heap.size := by omega
  have rf := (hf w.heap.size 0 (by simp)).trans (by go_simp : _ = false)
  have rf1 := (hf w.heap.size 1 (by simp)).trans (by go_simp : _ = false)
  have rf2 := (hf w.heap.size 2 (by simp)).trans (by go_simp : _ = false)
  have rc := (hc w.heap.size 0 (by simp)).trans (by go_simp : _ = some (.int .u64 0))
  have rc1 := (hc w.heap.size 1 (by simp)).trans (by go_simp : _ = some (.int .i64 0))
  have rc2 := (hc w.heap.size 2 (by simp)).trans (by go_simp : _ = some (.pointer none))
  have rl : w.heap.size < wc.heap.size := by omega
  clear hc hf c34 c1 c2 c3 c4 d0 d1 d2
  go_wp2_with fail
  go_region_held3 (fun w' => w'.cell? ⟨g, 34, none⟩ = some (.slice (some ⟨db, 0, none⟩) n cap) ∧ w'.cell? ⟨db, 0, none⟩ = some (.int .u64 (Plain.wl d)) ∧ w'.cell? ⟨db, 1, none⟩ = some (.int .i64 (Plain.ex d)) ∧ w'.cell? ⟨db, 2, none⟩ = some (.pointer none) ∧ w'.cell? ⟨ab, 0, none⟩ = some (.int .u64 (Plain.wl (m + -f * 1000000000))) ∧ w'.cell? ⟨ab, 1, none⟩ = some (.int .i64 (Plain.ex (m + -f * 1000000000))) ∧ w'.cell? ⟨ab, 2, none⟩ = some (.pointer none)) (first | go_keep | (go_split_ands; refine ⟨(hc g 34 eg4).trans ?_, (hc db 0 db4).trans ?_, (hc db 1 db4).trans ?_, (hc db 2 db4).trans ?_, (hc ab 0 hab1).trans ?_, (hc ab 1 hab1).trans ?_, (hc ab 2 hab1).trans ?_⟩ <;> assumption))
    (first | (go_at_call 8; refine (before_any d (m + -f * 1000000000) _).mono ?_; rintro e w' ⟨rfl, hb2⟩; obtain ⟨hc, hf⟩ := bcell hb2; have hs := hb2.size))
  have q0 := (hc w.heap.size 0 rl).trans rc
  have q1 := (hc w.heap.size 1 rl).trans rc1
  have q2 := (hc w.heap.size 2 rl).trans rc2
  have f0 := (hf w.heap.size 0 rl).trans rf
  have f1 := (hf w.heap.size 1 rl).trans rf1
  have f2 := (hf w.heap.size 2 rl).trans rf2
  clear hc hf
  go_wp2
  refine bodyPost_ret (v := .agg #[.int .u64 (Plain.wl d), .int .i64 (Plain.ex d), .pointer none]) (by simp [results, Yba.results5, go_sem, q0, q1, q2]) rfl ⟨rfl, ?_⟩
  exact ((((((((Below.refl _ _).alloc (Nat.le_refl _) _).trans (hb.mono (by omega))).drew).trans (hb2.mono (by simp; omega)))).setCell (Nat.le_refl _) _).setCell (Nat.le_refl _) _).setCell (Nat.le_refl _) _

set_option maxRecDepth 100000 in
set_option maxHeartbeats 1000000 in
theorem first_at (g : Nat) (m f : Int) (db cap : Nat) (n : Nat) (d : Int) (w : World) (hm0 : -9223372036854775808 ≤ m) (hm1 : m ≤ 9223372036854775807) (hf0 : -1048576 ≤ f) (hf1 : f ≤ 1048576)
    (hg : g < w.heap.size)
    (c1 : w.cell? ⟨g, 1, none⟩ = some (.int .u64 (Plain.wl m))) (c2 : w.cell? ⟨g, 2, none⟩ = some (.int .i64 (Plain.ex m))) (c3 : w.cell? ⟨g, 3, none⟩ = some (.pointer none))
    (c4 : w.cell? ⟨g, 4, none⟩ = some (.int .i64 f)) (c34 : w.cell? ⟨g, 34, none⟩ = some (.slice (some ⟨db, 0, none⟩) n cap)) (hdb : db < w.heap.size) (h0n : 0 < n) (d0 : w.cell? ⟨db, 0, none⟩ = some (.int .u64 (Plain.wl d))) (d1 : w.cell? ⟨db, 1, none⟩ = some (.int .i64 (Plain.ex d))) (d2 : w.cell? ⟨db, 2, none⟩ = some (.pointer none)) (hlt : decide (d < (m + -f * 1000000000)) = false) :
    Calls Yba.prog 5 #[.pointer (some ⟨g, 0, none⟩)] w fun e w' => e = .returned (.agg #[.int .u64 (Plain.wl (m + -f * 1000000000)), .int .i64 (Plain.ex (m + -f * 1000000000)), .pointer none]) ∧ Below w.heap.size w w' := by
  have eg : w.heap.size ≠ g := by omega
  have hwr : IntKind.i64.wrap (-f) = -f := by rw [IntKind.wrap_i64]; omega
  have eg1 : g < w.heap.size + 1 := by omega
  have eg2 : g < w.heap.size + 1 + 1 := by omega
  have eg3 : ¬ w.heap.size + 1 = g := by omega
  go_enter Yba.func5, Yba.ntmps5
  go_upto_region 1 with fail
  go_cut [3] (fun p wc => ∃ ab, p = .pointer (some ⟨ab, 0, none⟩) ∧ w.heap.size < ab ∧ ab < wc.heap.size ∧ wc.cell? ⟨ab, 0, none⟩ = some (.int .u64 (Plain.wl (m + -f * 1000000000))) ∧ wc.cell? ⟨ab, 1, none⟩ = some (.int .i64 (Plain.ex (m + -f * 1000000000))) ∧ wc.cell? ⟨ab, 2, none⟩ = some (.pointer none) ∧ Below (w.heap.size + 1) (w.alloc (.cells #[.int .u64 0, .int .i64 0, .pointer none] 28)) wc)
  case first =>
    go_region_held3 (fun w' => w'.cell? ⟨g, 1, none⟩ = some (.int .u64 (Plain.wl m)) ∧ w'.cell? ⟨g, 2, none⟩ = some (.int .i64 (Plain.ex m)) ∧ w'.cell? ⟨g, 3, none⟩ = some (.pointer none) ∧ w'.cell? ⟨g, 4, none⟩ = some (.int .i64 f)) (go_keep)
      (first | (go_at_call 7; refine (shift_any m (-f) _ hm0 hm1 (by omega) (by omega)).mono ?_; rintro e w' ⟨rfl, hb⟩; obtain ⟨hc, hfz⟩ := bcell hb; have hs := hb.size))
    all_goals (go_wp2_with fail; go_meet)
    · simp at hs
      refine ⟨_, rfl, by omega, by simp, by go_simp, by go_simp, by go_simp, ?_⟩
      exact (((Below.refl _ _).drew).trans (hb.mono (by simp))).alloc (by omega) _
    · simp at hs
      refine ⟨_, rfl, by omega, by simp; omega, by go_simp, by go_simp, by go_simp, ?_⟩
      exact ((((((Below.refl _ _).alloc (by simp) _).drew).trans (hb.mono (by simp))).setCell (by simp) _).setCell (by simp) _).setCell (by simp) _
  case rest =>
  obtain ⟨ab, rfl, hab0, hab1, a0, a1, a2, hb⟩ := hcut
  obtain ⟨hc, hf⟩ := bcell (W := w.alloc (.cells #[.int .u64 0, .int .i64 0, .pointer none] 28)) (by simpa using hb)
  have hr := (hc g 34 (by simp; omega)).trans ((World.cell?_alloc_lt _ _ _ hg).trans c34)
  have ne : ¬ w.heap.size = ab := by omega
  have lt0 : w.heap.size < w.heap.size + 1 := by omega
  have d0' := (hc db 0 (by simp; omega)).trans ((World.cell?_alloc_lt _ _ _ hdb).trans d0)
  have d1' := (hc db 1 (by simp; omega)).trans ((World.cell?_alloc_lt _ _ _ hdb).trans d1)
  have d2' := (hc db 2 (by simp; omega)).trans ((World.cell?_alloc_lt _ _ _ hdb).trans d2)
  have hn : (0 : Int) < ((n : Nat) : Int) := by omega
  have eg4 : g < wc.heap.size := by omega
  have db4 : db < wc.heap.size := by omega
  have rf := (hf w.heap.size 0 (by simp)).trans (by go_simp : _ = false)
  have rf1 := (hf w.heap.size 1 (by simp)).trans (by go_simp : _ = false)
  have rf2 := (hf w.heap.size 2 (by simp)).trans (by go_simp : _ = false)
  have rc := (hc w.heap.size 0 (by simp)).trans (by go_simp : _ = some (.int .u64 0))
  have rc1 := (hc w.heap.size 1 (by simp)).trans (by go_simp : _ = some (.int .i64 0))
  have rc2 := (hc w.heap.size 2 (by simp)).trans (by go_simp : _ = some (.pointer none))
  have rl : w.heap.size < wc.heap.size := by omega
  clear hc hf c34 c1 c2 c3 c4 d0 d1 d2
  go_wp2_with fail
  go_region_held3 (fun w' => w'.cell? ⟨g, 34, none⟩ = some (.slice (some ⟨db, 0, none⟩) n cap) ∧ w'.cell? ⟨db, 0, none⟩ = some (.int .u64 (Plain.wl d)) ∧ w'.cell? ⟨db, 1, none⟩ = some (.int .i64 (Plain.ex d)) ∧ w'.cell? ⟨db, 2, none⟩ = some (.pointer none) ∧ w'.cell? ⟨ab, 0, none⟩ = some (.int .u64 (Plain.wl (m + -f * 1000000000))) ∧ w'.cell? ⟨ab, 1, none⟩ = some (.int .i64 (Plain.ex (m + -f * 1000000000))) ∧ w'.cell? ⟨ab, 2, none⟩ = some (.pointer none)) (first | go_keep | (go_split_ands; refine ⟨(hc g 34 eg4).trans ?_, (hc db 0 db4).trans ?_, (hc db 1 db4).trans ?_, (hc db 2 db4).trans ?_, (hc ab 0 hab1).trans ?_, (hc ab 1 hab1).trans ?_, (hc ab 2 hab1).trans ?_⟩ <;> assumption))
    (first | (go_at_call 8; refine (before_any d (m + -f * 1000000000) _).mono ?_; rintro e w' ⟨rfl, hb2⟩; obtain ⟨hc, hf⟩ := bcell hb2; have hs := hb2.size))
  have q0 := (hc w.heap.size 0 rl).trans rc
  have q1 := (hc w.heap.size 1 rl).trans rc1
  have q2 := (hc w.heap.size 2 rl).trans rc2
  have f0 := (hf w.heap.size 0 rl).trans rf
  have f1 := (hf w.heap.size 1 rl).trans rf1
  have f2 := (hf w.heap.size 2 rl).trans rf2
  clear hc hf
  go_wp2
  refine bodyPost_ret (v := .agg #[.int .u64 (Plain.wl (m + -f * 1000000000)), .int .i64 (Plain.ex (m + -f * 1000000000)), .pointer none]) (by simp [results, Yba.results5, go_sem, q0, q1, q2]) rfl ⟨rfl, ?_⟩
  exact ((((((((Below.refl _ _).alloc (Nat.le_refl _) _).trans (hb.mono (by omega))).drew).trans (hb2.mono (by simp; omega)))).setCell (Nat.le_refl _) _).setCell (Nat.le_refl _) _).setCell (Nat.le_refl _) _

/-- What 'first' gives: the earlier of the shifted start and the first of n dates. -/
def want (m f : Int) (n : Nat) (d : Int) : Int := if 0 < n ∧ d < m - f * 1000000000 then d else m - f * 1000000000

theorem first_any (g : Nat) (m f : Int) (db n cap : Nat) (d : Int) (w : World) (hm0 : -9223372036854775808 ≤ m) (hm1 : m ≤ 9223372036854775807) (hf0 : -1048576 ≤ f) (hf1 : f ≤ 1048576)
    (hg : g < w.heap.size)
    (c1 : w.cell? ⟨g, 1, none⟩ = some (.int .u64 (Plain.wl m))) (c2 : w.cell? ⟨g, 2, none⟩ = some (.int .i64 (Plain.ex m))) (c3 : w.cell? ⟨g, 3, none⟩ = some (.pointer none))
    (c4 : w.cell? ⟨g, 4, none⟩ = some (.int .i64 f)) (c34 : w.cell? ⟨g, 34, none⟩ = some (.slice (some ⟨db, 0, none⟩) n cap))
    (hd : 0 < n → db < w.heap.size ∧ w.cell? ⟨db, 0, none⟩ = some (.int .u64 (Plain.wl d)) ∧ w.cell? ⟨db, 1, none⟩ = some (.int .i64 (Plain.ex d)) ∧ w.cell? ⟨db, 2, none⟩ = some (.pointer none)) :
    Calls Yba.prog 5 #[.pointer (some ⟨g, 0, none⟩)] w fun e w' => e = .returned (.agg #[.int .u64 (Plain.wl (want m f n d)), .int .i64 (Plain.ex (want m f n d)), .pointer none]) ∧ Below w.heap.size w w' := by
  have e : m + -f * 1000000000 = m - f * 1000000000 := by omega
  unfold want
  by_cases h0 : 0 < n
  · obtain ⟨hdb, d0, d1, d2⟩ := hd h0
    by_cases hlt : d < m - f * 1000000000
    · rw [if_pos ⟨h0, hlt⟩]
      exact first_date g m f db cap n d w hm0 hm1 hf0 hf1 hg c1 c2 c3 c4 c34 hdb h0 d0 d1 d2 (decide_eq_true (by omega))
    · rw [if_neg (fun h => hlt h.2), ← e]
      exact first_at g m f db cap n d w hm0 hm1 hf0 hf1 hg c1 c2 c3 c4 c34 hdb h0 d0 d1 d2 (decide_eq_false (by omega))
  · obtain rfl : n = 0 := by omega
    rw [if_neg (fun h => h0 h.1), ← e]
    exact first_none g m f db cap w hm0 hm1 hf0 hf1 hg c1 c2 c3 c4 c34
end Go.Proofs.Ybulkfnug
