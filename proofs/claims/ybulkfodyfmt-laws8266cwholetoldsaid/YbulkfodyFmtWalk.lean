/-
  The walk of 'LawS8266CWhole' (function 4), for every answer F of fmt: it returns true, and nothing that lay below has turned.
-/
import Derived.Test.YbulkfodyFmtCount
import Derived.Deep.DeepCutAuto
import Derived.Deep.QuietTactic
import Derived.BigQuiet
namespace Go.Proofs.YbulkfodyFmt
open Go.RowKit Go.Extern.Stop Go.Stop Go.Extern
set_option maxRecDepth 100000 in
set_option maxHeartbeats 2000000 in
/-- The law, whole: the array by value, the count, the flag 'near'. -/
theorem core (F : Interp) (x : Nat → Int) (n : Int) (near : Bool) (w : World) (hF : F.answers w.tape) :
    Calls Ybaf.prog 4 #[.agg #[.int .i64 (x 0), .int .i64 (x 1), .int .i64 (x 2), .int .i64 (x 3), .int .i64 (x 4), .int .i64 (x 5), .int .i64 (x 6)], .int .i64 n, .bool near] w fun e w' => e = .returned (.bool true) ∧ Below w.heap.size w w' := by
  go_enter Ybaf.func4, Ybaf.ntmps4
  go_upto_if 13 with fail
  go_cut [] (fun wc => ∃ v : Int, wc = w.alloc (.cells #[.int .i64 v, .int .i64 (x 1), .int .i64 (x 2), .int .i64 (x 3), .int .i64 (x 4), .int .i64 (x 5), .int .i64 (x 6)] 57))
  case first =>
    cases near
    · go_wp2
      go_meet
      exact ⟨_, rfl⟩
    · go_wp2
      go_meet
      exact ⟨_, rfl⟩
  case rest =>
  obtain ⟨v, rfl⟩ := hcut
  go_wp2_with fail
  refine (count_any F (w.heap.size+1+1) v n _ (by exact hF) (by go_simp) (by go_simp)).mono ?_
  rintro e w1 ⟨⟨v9, rfl, hv9⟩, hb⟩
  have hB1 : w1.cell? ⟨w.heap.size+1, 1, none⟩ = some (.int .i64 (x 1)) := (hb.cell (p := ⟨w.heap.size+1, 1, none⟩) (by simp)).trans (by go_simp)
  have hB2 : w1.cell? ⟨w.heap.size+1, 2, none⟩ = some (.int .i64 (x 2)) := (hb.cell (p := ⟨w.heap.size+1, 2, none⟩) (by simp)).trans (by go_simp)
  have hB3 : w1.cell? ⟨w.heap.size+1, 3, none⟩ = some (.int .i64 (x 3)) := (hb.cell (p := ⟨w.heap.size+1, 3, none⟩) (by simp)).trans (by go_simp)
  have hB4 : w1.cell? ⟨w.heap.size+1, 4, none⟩ = some (.int .i64 (x 4)) := (hb.cell (p := ⟨w.heap.size+1, 4, none⟩) (by simp)).trans (by go_simp)
  have hB5 : w1.cell? ⟨w.heap.size+1, 5, none⟩ = some (.int .i64 (x 5)) := (hb.cell (p := ⟨w.heap.size+1, 5, none⟩) (by simp)).trans (by go_simp)
  have hB6 : w1.cell? ⟨w.heap.size+1, 6, none⟩ = some (.int .i64 (x 6)) := (hb.cell (p := ⟨w.heap.size+1, 6, none⟩) (by simp)).trans (by go_simp)
  have hB0 : w1.cell? ⟨w.heap.size+1, 0, none⟩ = some (.int .i64 v) := (hb.cell (p := ⟨w.heap.size+1, 0, none⟩) (by simp)).trans (by go_simp)
  have hE6 : w1.cell? ⟨w.heap.size+1+1, 6, none⟩ = some (.int .i64 (wrap64 (v+n))) := (hb.cell (p := ⟨w.heap.size+1+1, 6, none⟩) (by simp)).trans (by go_simp)
  have hE7 : w1.cell? ⟨w.heap.size+1+1, 7, none⟩ = some (.int .i64 (x 1)) := (hb.cell (p := ⟨w.heap.size+1+1, 7, none⟩) (by simp)).trans (by go_simp)
  have hE8 : w1.cell? ⟨w.heap.size+1+1, 8, none⟩ = some (.int .i64 (x 2)) := (hb.cell (p := ⟨w.heap.size+1+1, 8, none⟩) (by simp)).trans (by go_simp)
  have hE9 : w1.cell? ⟨w.heap.size+1+1, 9, none⟩ = some (.int .i64 (x 3)) := (hb.cell (p := ⟨w.heap.size+1+1, 9, none⟩) (by simp)).trans (by go_simp)
  have hE10 : w1.cell? ⟨w.heap.size+1+1, 10, none⟩ = some (.int .i64 (x 4)) := (hb.cell (p := ⟨w.heap.size+1+1, 10, none⟩) (by simp)).trans (by go_simp)
  have hE11 : w1.cell? ⟨w.heap.size+1+1, 11, none⟩ = some (.int .i64 (x 5)) := (hb.cell (p := ⟨w.heap.size+1+1, 11, none⟩) (by simp)).trans (by go_simp)
  have hE12 : w1.cell? ⟨w.heap.size+1+1, 12, none⟩ = some (.int .i64 (x 6)) := (hb.cell (p := ⟨w.heap.size+1+1, 12, none⟩) (by simp)).trans (by go_simp)
  have hE0 : w1.cell? ⟨w.heap.size+1+1, 0, none⟩ = some (.pointer none) := (hb.cell (p := ⟨w.heap.size+1+1, 0, none⟩) (by simp)).trans (by go_simp)
  have hE4 : w1.cell? ⟨w.heap.size+1+1, 4, none⟩ = some (.pointer none) := (hb.cell (p := ⟨w.heap.size+1+1, 4, none⟩) (by simp)).trans (by go_simp)
  have hE39 : w1.cell? ⟨w.heap.size+1+1, 39, none⟩ = some (.pointer none) := (hb.cell (p := ⟨w.heap.size+1+1, 39, none⟩) (by simp)).trans (by go_simp)
  have hE40 : w1.cell? ⟨w.heap.size+1+1, 40, none⟩ = some (.pointer none) := (hb.cell (p := ⟨w.heap.size+1+1, 40, none⟩) (by simp)).trans (by go_simp)
  have hE41 : w1.cell? ⟨w.heap.size+1+1, 41, none⟩ = some (.pointer none) := (hb.cell (p := ⟨w.heap.size+1+1, 41, none⟩) (by simp)).trans (by go_simp)
  have hE43 : w1.cell? ⟨w.heap.size+1+1, 43, none⟩ = some (.pointer none) := (hb.cell (p := ⟨w.heap.size+1+1, 43, none⟩) (by simp)).trans (by go_simp)
  have hE44 : w1.cell? ⟨w.heap.size+1+1, 44, none⟩ = some (.pointer none) := (hb.cell (p := ⟨w.heap.size+1+1, 44, none⟩) (by simp)).trans (by go_simp)
  have hE5 : w1.cell? ⟨w.heap.size+1+1, 5, none⟩ = some (.slice none 0 0) := (hb.cell (p := ⟨w.heap.size+1+1, 5, none⟩) (by simp)).trans (by go_simp)
  have hE42 : w1.cell? ⟨w.heap.size+1+1, 42, none⟩ = some (.slice none 0 0) := (hb.cell (p := ⟨w.heap.size+1+1, 42, none⟩) (by simp)).trans (by go_simp)
  have hE37 : w1.cell? ⟨w.heap.size+1+1, 37, none⟩ = some (.int .i64 0) := (hb.cell (p := ⟨w.heap.size+1+1, 37, none⟩) (by simp)).trans (by go_simp)
  have hE38 : w1.cell? ⟨w.heap.size+1+1, 38, none⟩ = some (.map none) := (hb.cell (p := ⟨w.heap.size+1+1, 38, none⟩) (by simp)).trans (by go_simp)
  have hbel : Below w.heap.size w w1 := by
    refine Below.trans ?_ (hb.mono (by simp <;> omega))
    exact ((((Below.refl _ w).alloc (Nat.le_refl _) _).alloc (by simp) _).alloc (by simp <;> omega) _).setCell (by simp <;> omega) _
  clear hb hF
  have hvh : Hid (((v9 = .nilIface ∧ ¬ 67108864 < wrap64 (v+n)) ∨ ∃ p, v9 = .iface 108 (.pointer p) ∧ 67108864 < wrap64 (v+n))) := hv9
  clear hv9
  go_wp2_with fail
  go_loopw [11] (fun i wx => ∃ k : Nat, 1 ≤ k ∧ k ≤ 7 ∧ i = .int .i64 k ∧ ∃ m, wx = w1.drewN m) (fun i _ => 7 - (intOf i).toNat)
  case atStart => exact ⟨1, by omega, by omega, rfl, 0, rfl⟩
  case round =>
    obtain ⟨k, hk1, hk7, rfl, m, rfl⟩ := hrel
    have hks : k = 1 ∨ k = 2 ∨ k = 3 ∨ k = 4 ∨ k = 5 ∨ k = 6 ∨ k = 7 := by omega
    clear hk1 hk7
    rcases hks with rfl | rfl | rfl | rfl | rfl | rfl | rfl
    case inr.inr.inr.inr.inr.inr =>
      have r66 := run_neq_slice_nil_any (P := Ybaf.prog) (w1.drewN m) 66 _ none 0 0 0 0 Ybaf.underlying66
      have r53 := run_neq_slice_nil_any (P := Ybaf.prog) (w1.drewN m) 53 _ none 0 0 0 0 Ybaf.underlying53
      have r73 := run_neq_map_nil (P := Ybaf.prog) (w1.drewN m) 73 _ _ none Ybaf.underlying73
      rcases hvh with ⟨rfl, hle⟩ | ⟨p, rfl, hlt⟩
      · go_wp2_with fail
        go_ret
        exact ⟨rfl, below_drewN hbel m⟩
      · have r50 := run_neq_iface_nil (P := Ybaf.prog) (w := w1.drewN m) 50 (by kernel_rfl) 108 (.pointer p)
        go_wp2_with fail
        go_ret
        exact ⟨rfl, below_drewN hbel m⟩
    all_goals
      go_wp2_with fail
      go_quiet (fail)
      go_wp2
      go_roundw
      case rel =>
        first
          | exact ⟨2, by omega, by omega, rfl, m + nq, rfl⟩
          | exact ⟨3, by omega, by omega, rfl, m + nq, rfl⟩
          | exact ⟨4, by omega, by omega, rfl, m + nq, rfl⟩
          | exact ⟨5, by omega, by omega, rfl, m + nq, rfl⟩
          | exact ⟨6, by omega, by omega, rfl, m + nq, rfl⟩
          | exact ⟨7, by omega, by omega, rfl, m + nq, rfl⟩
      case measure => simp [intOf]
end Go.Proofs.YbulkfodyFmt
