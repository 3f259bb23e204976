import Derived.Test.YbulkfnugFirst
import Derived.Test.YbulkfnugParts
import Derived.Deep.DeepCutAuto
import Derived.Deep.RegionHeld3
namespace Go.Proofs.Ybulkfnug
open Go.RowKit
theorem nilEq (W : World) : Sem.run Yba.prog (Op.equalIn 9999 26 (Value.pointer none) (Value.pointer none)) W = .ok true W := by kernel_rfl
theorem Yba.info28 : (Yba.prog.info? 28).map (fun i => (i.zero, i.size, i.bytes)) = some (some (.agg #[.int .u64 0, .int .i64 0, .pointer none]), 3, 24) := by kernel_rfl
set_option maxRecDepth 100000 in
set_option maxHeartbeats 1000000 in
theorem big (a0 a1 a2 : Int) (a3 : Bool) (at4 : Option Addr) (len cap : Nat) (w : World) (_hm : len ≤ 9223372036854775807) (hlen : (1048576 : Int) < (len : Int)) :
    Calls Yba.prog 3 #[.int .i64 a0, .int .i64 a1, .int .i64 a2, .bool a3, .slice at4 len cap] w fun e w' => e = .returned (.bool true) ∧ Below w.heap.size w w' := by
  go_enter Yba.func3, Yba.ntmps3
  go_wp2
  go_ret
  exact ⟨rfl, Below.refl _ _⟩
set_option maxRecDepth 100000 in
set_option maxHeartbeats 1000000 in
theorem core (a0 a1 a2 : Int) (a3 : Bool) (at4 : Option Addr) (len cap b off : Nat) (z : Nat → Int) (w : World)
    (l0 : -9223372036854775808 ≤ a0) (u0 : a0 ≤ 9223372036854775807) 
    (hlen : (len : Int) ≤ 1048576)
    (hat : Hid (0 < len → at4 = some ⟨b, off, none⟩ ∧ b < w.heap.size)) (hc : ∀ i, i < len → w.cell? ⟨b, off + i, none⟩ = some (.int .i64 (z i)))
    (hz : ∀ i, -9223372036854775808 ≤ z i ∧ z i ≤ 9223372036854775807) :
    Calls Yba.prog 3 #[.int .i64 a0, .int .i64 a1, .int .i64 a2, .bool a3, .slice at4 len cap] w fun e w' => e = .returned (.bool true) ∧ Below w.heap.size w w' := by
  obtain ⟨i0, hi, hz0, hz1, hz2⟩ := info_parts Yba.info28
  have hlb : decide ((1048576 : Int) < (len : Int)) = false := decide_eq_false (by omega)
  go_enter Yba.func3, Yba.ntmps3
  go_wp2_with (at_make; refine wpList_make_own _ rfl _ _ 24 rfl w.heap.size 28 i0 _ 3 Yba.underlying24 hi hz0 hz1 _ _ _ len rfl rfl rfl (by rw [hz2]; omega) (by unfold maxLen; omega) (Nat.le_refl _) ?_; intro w1 hown1 hgrow1)
  go_loopw [13, 14] (fun v i wr => ∃ k : Nat, k ≤ len ∧ i = .int .i64 k ∧ v = .slice (some ⟨w.heap.size, 0, none⟩) k len ∧ wr.ownsRow w.heap.size 28 3 (.slice (some ⟨w.heap.size, 0, none⟩) k len) k (dc z k) ∧ Below w.heap.size w wr) (fun _ i _ => len - (intOf i).toNat)
  case atStart => exact ⟨0, Nat.zero_le _, rfl, rfl, hown1, (Below.refl _ _).grown hgrow1 (Nat.le_refl _) (fun _ h => by cases h)⟩
  case round =>
    obtain ⟨k, hk, rfl, rfl, hown, hbel⟩ := hrel
    by_cases hlt : k < len
    · obtain ⟨rfl, hbt⟩ := hat.out (by omega)
      have hck := (hbel.cell (p := ⟨b, off + k, none⟩) hbt).trans (hc k hlt)
      obtain ⟨zl, zu⟩ := hz k
      have hlt' : (k : Int) < (len : Int) := by omega
      have hgl := own_lt hown
      go_wp2_with (first
        | (go_at_call 4; refine (at_any (z k / 2) _ (by omega) (by omega)).mono ?_; rintro e w2 ⟨rfl, hb2⟩; have hown2 := own_keep (w' := w2) hown (hb2.block _ hgl))
        | (at_builtin; refine wpList_append_fits _ rfl _ _ 24 rfl w.heap.size 28 i0 3 Yba.underlying24 hi hz1 w.heap.size k len (dc z k) rfl (hown2.alloc _) ⟨_, 0, none⟩ 1 1 (tc (z k / 2)) rfl rfl ?_ ?_ (by omega) ?_))
      · exact tc_new _ _
      · exact tc_one _
      · intro w3 hown3 hgrow3
        rw [← dc_succ] at hown3
        have hb3 : Below w.heap.size w w3 := ((hbel.trans (hb2.mono hbel.size)).alloc (Nat.le_trans hbel.size hb2.size) _).grown hgrow3 (by have := hb2.size; have := hbel.size; simp; omega) (fun j hj => by cases hj; exact Nat.le_refl _)
        clear hown hown2 hb2 hgrow3 hck hbel
        go_wp2
        go_roundw
        case rel => exact ⟨k + 1, by omega, by go_num, rfl, hown3, hb3⟩
        case measure => simp [intOf]; omega
    · obtain rfl : len = k := by omega
      have hgl := own_lt hown
      go_wp2_with fail
      refine (at_any (a0 / 2) _ (by omega) (by omega)).mono ?_
      rintro e w3 ⟨rfl, hb3⟩
      have hown3 := own_keep (w' := w3) hown (hb3.block _ hgl)
      have hbel3 := hbel.trans (hb3.mono hbel.size)
      clear hown hbel hb3 hown1 hgrow1
      have hf : -1048576 ≤ a1.tmod 1048576 ∧ a1.tmod 1048576 ≤ 1048576 := ⟨Int.le_of_lt (Int.lt_tmod_of_pos a1 (by decide)), Int.le_of_lt (Int.tmod_lt_of_pos a1 (by decide))⟩
      obtain ⟨hf0, hf1⟩ := hf
      go_wp2_with fail
      refine (first_any w3.heap.size (a0 / 2) (a1.tmod 1048576) w.heap.size len len (z 0 / 2) _ (by omega) (by omega) hf0 hf1 (by simp) (by go_simp) (by go_simp) (by go_simp) (by go_simp) (by go_simp) ?_).mono ?_
      · intro h0
        obtain ⟨g0, g1, g2⟩ := dc_get z 0 len h0
        have hl3 := own_lt hown3
        exact ⟨by simp; omega, (World.cell?_alloc_lt _ _ _ hl3).trans ((hown3.cellAt 0 (by omega)).trans g0), (World.cell?_alloc_lt _ _ _ hl3).trans ((hown3.cellAt 1 (by omega)).trans g1), (World.cell?_alloc_lt _ _ _ hl3).trans ((hown3.cellAt 2 (by omega)).trans g2)⟩
      rintro e w4 ⟨rfl, hb4⟩
      have L := Laid.born (v := want (a0 / 2) (a1.tmod 1048576) len (z 0 / 2)) hown3 rfl rfl rfl rfl rfl rfl rfl hb4
      have hb5 : Below w.heap.size w (w4.alloc (.cells #[.int .u64 (Plain.wl (want (a0 / 2) (a1.tmod 1048576) len (z 0 / 2))), .int .i64 (Plain.ex (want (a0 / 2) (a1.tmod 1048576) len (z 0 / 2))), .pointer none] 28)) :=
        ((hbel3.alloc hbel3.size _).trans (hb4.mono (by have := hbel3.size; simp; omega))).alloc (by have := hbel3.size; have := hb4.size; simp at this; omega) _
      clear hb4 hown3 hbel3
      go_upto_region 12 with fail
      generalize w4.alloc (.cells #[.int .u64 (Plain.wl (want (a0 / 2) (a1.tmod 1048576) len (z 0 / 2))), .int .i64 (Plain.ex (want (a0 / 2) (a1.tmod 1048576) len (z 0 / 2))), .pointer none] 28) = w5 at L hb5 ⊢
      generalize w3.heap.size = G at L ⊢
      generalize w4.heap.size = R at L ⊢
      go_upto_if 63 with fail
      go_cut [18] (fun v18 wc => v18 = .int .i64 (want (a0 / 2) (a1.tmod 1048576) len (z 0 / 2)) ∧ w5 = wc)
      case first =>
        by_cases h0 : 0 < len
        · obtain ⟨rfl, hbt⟩ := hat.out h0
          have hc0 := (hb5.cell (p := ⟨b, off + 0, none⟩) hbt).trans (hc 0 h0)
          rw [Nat.add_zero] at hc0
          have h0' : (0 : Int) < (len : Int) := by omega
          by_cases hlt : z 0 / 2 < a0 / 2 - a1.tmod 1048576 * 1000000000
          · have HW : Hid (want (a0 / 2) (a1.tmod 1048576) len (z 0 / 2) = z 0 / 2) := if_pos ⟨h0, hlt⟩
            go_wp2
            go_meet
            exact ⟨by rw [HW.out], rfl⟩
          · have HW : Hid (want (a0 / 2) (a1.tmod 1048576) len (z 0 / 2) = a0 / 2 - a1.tmod 1048576 * 1000000000) := if_neg (fun h => hlt h.2)
            go_wp2
            go_meet
            exact ⟨by rw [HW.out], rfl⟩
        · have HW : Hid (want (a0 / 2) (a1.tmod 1048576) len (z 0 / 2) = a0 / 2 - a1.tmod 1048576 * 1000000000) := if_neg (fun h => h0 h.1)
          go_wp2
          go_meet
          exact ⟨by rw [HW.out], rfl⟩
      case rest =>
      obtain ⟨rfl, rfl⟩ := hcut
      have hv0 : -9223372036854775808 ≤ want (a0 / 2) (a1.tmod 1048576) len (z 0 / 2) ∧ want (a0 / 2) (a1.tmod 1048576) len (z 0 / 2) ≤ 9223372036854775807 := by
        have := hz 0
        unfold want
        split <;> omega
      generalize want (a0 / 2) (a1.tmod 1048576) len (z 0 / 2) = v at L hv0 ⊢
      obtain ⟨hv0, hv1⟩ := hv0
      have lr := L.lr
      have r0 := L.r0
      have r1 := L.r1
      have r2 := L.r2
      have hnil := nilEq
      go_wp2_with fail
      go_region_held3 (fun w' => w'.cell? ⟨R, 0, none⟩ = some (.int .u64 (Plain.wl v)) ∧ w'.cell? ⟨R, 1, none⟩ = some (.int .i64 (Plain.ex v)) ∧ w'.cell? ⟨R, 2, none⟩ = some (.pointer none))
        (first | go_keep | (go_split_ands; refine ⟨(hc6 R 0 lr).trans ?_, (hc6 R 1 lr).trans ?_, (hc6 R 2 lr).trans ?_⟩ <;> assumption))
        (first | (go_at_call 4; refine (at_any v _ hv0 hv1).mono ?_; rintro e w6 ⟨rfl, hb6⟩; obtain ⟨hc6, hf6⟩ := bcell hb6))
      have hb6' := ((Below.refl w5.heap.size w5).drew).trans hb6
      have L6 := L.keep hb6'
      have hbel6 := hb5.trans (hb6'.mono hb5.size)
      clear hc6 hf6 hb6 hb6' L hb5 lr r0 r1 r2
      have lg := L6.lg
      have c0 := L6.c0
      have c1 := L6.c1
      have c2 := L6.c2
      have c3 := L6.c3
      have c4 := L6.c4
      have c5 := L6.c5
      have c34 := L6.c34
      go_wp2_with fail
      go_region_held3 (fun w' => w'.cell? ⟨G, 0, none⟩ = some (.bool a3) ∧ w'.cell? ⟨G, 1, none⟩ = some (.int .u64 (Plain.wl (a0 / 2))) ∧ w'.cell? ⟨G, 2, none⟩ = some (.int .i64 (Plain.ex (a0 / 2))) ∧ w'.cell? ⟨G, 3, none⟩ = some (.pointer none) ∧ w'.cell? ⟨G, 4, none⟩ = some (.int .i64 (a1.tmod 1048576)) ∧ w'.cell? ⟨G, 5, none⟩ = some (.int .i64 a2) ∧ w'.cell? ⟨G, 34, none⟩ = some (.slice (some ⟨w.heap.size, 0, none⟩) len len))
        (first | go_keep | (go_split_ands; refine ⟨(hc7 G 0 lg).trans ?_, (hc7 G 1 lg).trans ?_, (hc7 G 2 lg).trans ?_, (hc7 G 3 lg).trans ?_, (hc7 G 4 lg).trans ?_, (hc7 G 5 lg).trans ?_, (hc7 G 34 lg).trans ?_⟩ <;> assumption))
        (first | (go_at_call 4; refine (at_any (a0 / 2) _ (by omega) (by omega)).mono ?_; rintro e w7 ⟨rfl, hb7⟩; obtain ⟨hc7, hf7⟩ := bcell hb7))
      have hb7' := ((Below.refl w6.heap.size w6).drew).trans hb7
      have L7 := L6.keep hb7'
      have hbel7 := hbel6.trans (hb7'.mono hbel6.size)
      clear hc7 hf7 hb7 hb7' L6 hbel6 lg c0 c1 c2 c3 c4 c5 c34
      go_wp2_with fail
      go_loopw [20] (fun i wx => ∃ k : Nat, k ≤ len ∧ i = .int .i64 k ∧ Laid wx w.heap.size G R a3 (a0 / 2) (a1.tmod 1048576) a2 len z v ∧ Below w.heap.size w wx) (fun i _ => len - (intOf i).toNat)
      case atStart => exact ⟨0, Nat.zero_le _, rfl, L7, hbel7⟩
      case round =>
        obtain ⟨k, hk2, rfl, Lk, hbk⟩ := hrel
        clear L7 hbel7
        by_cases hlt : k < len
        · obtain ⟨rfl, hbt⟩ := hat.out (by omega)
          have lk : b < wr.heap.size := Nat.lt_of_lt_of_le hbt hbk.size
          have hck := (hbk.cell (p := ⟨b, off + k, none⟩) hbt).trans (hc k hlt)
          have d0 := Lk.d0 k hlt
          have d1 := Lk.d1 k hlt
          have d2 := Lk.d2 k hlt
          have ld := Lk.ld
          have lg := Lk.lg
          have c34 := Lk.c34
          obtain ⟨zl, zu⟩ := hz k
          have hlt' : (k : Int) < (len : Int) := by omega
          have hk0 : (0 : Int) ≤ (k : Int) := by omega
          go_wp2_with fail
          go_region_held3 (fun w' => w'.cell? ⟨G, 34, none⟩ = some (.slice (some ⟨w.heap.size, 0, none⟩) len len) ∧ w'.cell? ⟨w.heap.size, k * 3, none⟩ = some (.int .u64 (Plain.wl (z k / 2))) ∧ w'.cell? ⟨w.heap.size, k * 3 + 1, none⟩ = some (.int .i64 (Plain.ex (z k / 2))) ∧ w'.cell? ⟨w.heap.size, k * 3 + 2, none⟩ = some (.pointer none) ∧ w'.cell? ⟨b, off + k, none⟩ = some (.int .i64 (z k)))
            (first | go_keep | (go_split_ands; refine ⟨(hc8 G 34 lg).trans ?_, (hc8 w.heap.size _ ld).trans ?_, (hc8 w.heap.size _ ld).trans ?_, (hc8 w.heap.size _ ld).trans ?_, (hc8 b _ lk).trans ?_⟩ <;> assumption))
            (first | (go_at_call 4; refine (at_any (z k / 2) _ (by omega) (by omega)).mono ?_; rintro e w8 ⟨rfl, hb8⟩; obtain ⟨hc8, hf8⟩ := bcell hb8))
          have hb8' := ((Below.refl wr.heap.size wr).drew).trans hb8
          have L8 := Lk.keep hb8'
          have hbel8 := hbk.trans (hb8'.mono hbk.size)
          clear hc8 hf8 hb8 hb8' Lk hbk lg ld lk c34 d0 d1 d2 hck
          go_wp2
          go_roundw
          case rel => exact ⟨k + 1, by omega, by go_num, L8, hbel8⟩
          case measure => simp [intOf]; omega
        · go_wp2
          go_ret
          exact ⟨rfl, hbk⟩
end Go.Proofs.Ybulkfnug
