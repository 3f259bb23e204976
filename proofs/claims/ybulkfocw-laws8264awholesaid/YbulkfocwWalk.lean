import Derived.Test.YbulkfocwDescend
import Derived.Deep.QuietTactic
import Derived.BigQuiet
import Derived.Lib.Builder
namespace Go.Proofs.Ybulkfocw
open Go.RowKit
set_option maxRecDepth 100000 in
set_option maxHeartbeats 1000000 in
theorem big (aw ak : Option Addr) (n cw lk ck : Nat) (w : World) (_hm : n ≤ 9223372036854775807) (hlen : (65536 : Int) < (n : Int)) :
    Calls Yba.prog 3 #[.slice aw n cw, .slice ak lk ck] w fun e w' => e = .returned (.bool true) ∧ Below w.heap.size w w' := by
  go_enter Yba.func3, Yba.ntmps3
  go_wp2
  go_ret
  exact ⟨rfl, Below.refl _ _⟩

/-- What lies in memory when the cursor has been made: all that the law reads from there on. -/
structure Seen (w : World) (C G S g n cap : Nat) (N K wd : Nat → Nat) : Prop where
  part : Part w C n 0 N K wd
  chain : ∀ i, i ≤ n → w.cell? ⟨C, i, none⟩ = some (.pointer (some ⟨N i, 0, none⟩))
  root : w.cell? ⟨S, 0, none⟩ = some (.pointer (some ⟨N 0, 0, none⟩))
  path : w.cell? ⟨G, 0, none⟩ = some (.slice (some ⟨g, 0, none⟩) (n + 1) cap)
  lent : w.cell? ⟨G, 1, none⟩ = some (.slice none 0 0)
  at0 : ∀ i, i ≤ n → w.cell? ⟨g, i * 2, none⟩ = some (.pointer (some ⟨N i, 0, none⟩))
  at1 : ∀ i, i ≤ n → w.cell? ⟨g, i * 2 + 1, none⟩ = some (.int .i64 0)

theorem Yba.info40 : (Yba.prog.info? 40).map (fun i => (i.zero, i.size, i.bytes)) = some (some (.agg #[.int .u64 0, .slice none 0 0, .slice none 0 0]), 3, 56) := by kernel_rfl

set_option maxRecDepth 100000 in
set_option maxHeartbeats 2000000 in
theorem core (aw ak : Option Addr) (n cw lk ck bw ow bk ok : Nat) (z : Nat → Int) (ks : Nat → ByteArray) (w : World)
    (hn : (n : Int) ≤ 65536) (hlk : (lk : Int) ≤ 9223372036854775807)
    (haw : Hid (0 < n → aw = some ⟨bw, ow, none⟩ ∧ bw < w.heap.size)) (hcw : ∀ i, i < n → w.cell? ⟨bw, ow + i, none⟩ = some (.int .u8 (z i)))
    (hz : ∀ i, 0 ≤ z i ∧ z i ≤ 255)
    (hak : Hid (0 < lk → ak = some ⟨bk, ok, none⟩ ∧ bk < w.heap.size)) (hck : ∀ i, i < lk → w.cell? ⟨bk, ok + i, none⟩ = some (.string (ks i))) :
    Calls Yba.prog 3 #[.slice aw n cw, .slice ak lk ck] w fun e w' => e = .returned (.bool true) ∧ Below w.heap.size w w' := by
  have hlb : decide ((65536 : Int) < (n : Int)) = false := decide_eq_false (by omega)
  have q25 : ∀ (w : World) (a : Option Addr) (n c n' c' : Nat), (binOp .neq 25 (.slice a n c) (.slice none n' c')).run Yba.prog w = .ok (.bool !a.isNone) w := fun w a n c n' c' => run_neq_slice_nil_any w _ _ a n c n' c' Yba.underlying25
  have q22 : ∀ (w : World) (a : Option Addr) (n c n' c' : Nat), (binOp .neq 22 (.slice a n c) (.slice none n' c')).run Yba.prog w = .ok (.bool !a.isNone) w := fun w a n c n' c' => run_neq_slice_nil_any w _ _ a n c n' c' Yba.underlying22
  obtain ⟨i40, hi40, _, _, _⟩ := info_parts Yba.info40
  have q24 : ∀ (w : World) (a : Addr), (binOp .neq 24 (.pointer (some a)) (.pointer (some a))).run Yba.prog w = .ok (.bool false) w := fun w a => Lib.run_neq_ptr_same w a Yba.underlying24 hi40
  clear hi40
  go_enter Yba.func3, Yba.ntmps3
  go_wp2_with fail
  refine (build_any aw ak n cw lk ck bw ow bk ok z ks _ hn hlk haw hcw hz hak hck).mono ?_
  rintro e w1 ⟨N, K, rfl, hP, hC, hb1⟩
  have hb2 : Below w1.heap.size w1 (w1.alloc (.cells #[.pointer (some ⟨N 0, 0, none⟩)] 29)) := (Below.refl _ _).alloc (Nat.le_refl _) _
  go_wp2_with fail
  refine (cursor_any w.heap.size n N K (wdOf z) _ hn (fun i => by unfold wdOf; omega) (hP.keep hb2)).mono ?_
  rintro e w3 ⟨rfl, ⟨g, cap, hg0, hown⟩, hg1, hlt3, hb3⟩
  have hb13 : Below w1.heap.size w1 w3 := hb2.trans (hb3.mono (by simp))
  have S : Seen w3 w.heap.size ((w1.alloc (.cells #[.pointer (some ⟨N 0, 0, none⟩)] 29)).heap.size + 1) w1.heap.size g n cap N K (wdOf z) :=
    ⟨hP.keep hb13, fun i hi => (hC.keep hb13).cell i (Nat.zero_le _) hi, (hb3.cell (p := ⟨w1.heap.size, 0, none⟩) (by simp)).trans (by simp), hg0, hg1,
      fun i hi => (hown.cellAt _ (by omega)).trans (steps_get N i (n + 1) (by omega)).1, fun i hi => (hown.cellAt _ (by omega)).trans (steps_get N i (n + 1) (by omega)).2⟩
  have hbel : Below w.heap.size w w3 := hb1.trans (hb13.mono hb1.size)
  clear hg0 hown hg1 hlt3 hb3 hb2 hb13 hP hC hb1
  generalize (w1.alloc (.cells #[.pointer (some ⟨N 0, 0, none⟩)] 29)).heap.size + 1 = G at S ⊢
  generalize w1.heap.size = Sb at S ⊢
  have hp0 := S.path
  have hl0 := S.lent
  have hn0 : (0 : Int) < (n : Int) + 1 := by omega
  go_wp2_with fail
  go_loopw [9] (fun i wx => ∃ k : Nat, k ≤ n + 1 ∧ i = .int .i64 k ∧ ∃ m, wx = w3.drewN m) (fun i _ => n + 1 - (intOf i).toNat)
  case atStart => exact ⟨0, Nat.zero_le _, rfl, 0, rfl⟩
  case round =>
    obtain ⟨k, hk, rfl, m, rfl⟩ := hrel
    by_cases hlt : k < n + 1
    · have hlt' : (k : Int) < (n : Int) + 1 := by omega
      have hk0 : (0 : Int) ≤ (k : Int) := by omega
      have hc := S.chain k (by omega)
      have ha0 := S.at0 k (by omega)
      have ha1 := S.at1 k (by omega)
      go_wp2_with fail
      go_quiet (fail)
      go_wp2
      go_roundw
      case rel => exact ⟨k + 1, by omega, by go_num, m + nq, by first | rfl | rw [World.drewN_drewN]⟩
      case measure => simp [intOf]; omega
    · have hc0 := S.chain 0 (Nat.zero_le _)
      have hr0 := S.root
      go_wp2_with fail
      go_quiet (fail)
      go_wp2_with fail
      go_loopw [10] (fun i wx => ∃ k : Nat, k ≤ n ∧ i = .int .i64 k ∧ ∃ m, wx = w3.drewN m) (fun i _ => n + 1 - (intOf i).toNat)
      case atStart => exact ⟨0, Nat.zero_le _, rfl, m + nq, by first | rfl | rw [World.drewN_drewN]⟩
      case round =>
        obtain ⟨j, hj, rfl, m2, rfl⟩ := hrel
        by_cases hlt2 : j < n
        · have hj1 : (j : Int) + 1 < (n : Int) + 1 := by omega
          have hj2 : (j : Int) < (n : Int) := by omega
          have hj3 : (j : Int) < (n : Int) + 1 := by omega
          have hj0 : (0 : Int) ≤ (j : Int) := by omega
          obtain ⟨rfl, hbw⟩ := haw.out (by omega)
          have hcj := S.chain j (by omega)
          have hcj1 := S.chain (j + 1) (by omega)
          have hnd := (S.part.node j (Nat.zero_le _) (by omega)).2.2
          rw [kids, if_pos hlt2] at hnd
          have hkd := (S.part.kid j (Nat.zero_le _) hlt2).2.2
          have hcz := (hbel.cell (p := ⟨bw, ow + j, none⟩) hbw).trans (hcw j hlt2)
          obtain ⟨z0, z1⟩ := hz j
          have hwd : ((wdOf z j : Nat) : Int) = z j % 4 + 1 := by unfold wdOf; omega
          have hwd1 : (0 : Int) < z j % 4 + 1 := by omega
          go_wp2_with fail
          go_quiet (fail)
          clear hwd
          go_wp2
          go_roundw
          case rel => exact ⟨j + 1, by omega, by go_num, m2 + nq, by first | rfl | rw [World.drewN_drewN]⟩
          case measure => simp [intOf]; omega
        · obtain rfl : n = j := by omega
          have hcn := S.chain n (Nat.le_refl _)
          have hnd := (S.part.node n (Nat.zero_le _) (Nat.le_refl _)).2.2
          rw [kids, if_neg (by omega)] at hnd
          have hn1 : (n : Int) < (n : Int) + 1 := by omega
          have hn2 : (0 : Int) ≤ (n : Int) := by omega
          go_wp2
          go_ret
          exact ⟨rfl, below_drewN hbel _⟩
end Go.Proofs.Ybulkfocw
