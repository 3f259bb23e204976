import Derived.Test.YbulkfocwRows
import Derived.Test.YbulkfocwParts
import Derived.WalkKit
import Derived.WalkLawsBesides
import Derived.WalkSpells
import Derived.Outline
import Derived.Deep.LoopGhost
import Derived.Deep.DeepCutAuto
namespace Go.Proofs.Ybulkfocw
open Go.RowKit
theorem Yba.info24 : (Yba.prog.info? 24).map (fun i => (i.zero, i.size, i.bytes)) = some (some (.pointer none), 1, 8) := by kernel_rfl
/-- The number of children of node i. -/
def wdOf (z : Nat → Int) (i : Nat) : Nat := (z i % 4).toNat + 1
set_option maxRecDepth 100000 in
set_option maxHeartbeats 1000000 in
theorem build_any (aw ak : Option Addr) (n cw lk ck bw ow bk ok : Nat) (z : Nat → Int) (ks : Nat → ByteArray) (w : World)
    (hn : (n : Int) ≤ 65536) (hlk : (lk : Int) ≤ 9223372036854775807)
    (haw : Hid (0 < n → aw = some ⟨bw, ow, none⟩ ∧ bw < w.heap.size)) (hcw : ∀ i, i < n → w.cell? ⟨bw, ow + i, none⟩ = some (.int .u8 (z i)))
    (hz : ∀ i, 0 ≤ z i ∧ z i ≤ 255)
    (hak : Hid (0 < lk → ak = some ⟨bk, ok, none⟩ ∧ bk < w.heap.size)) (hck : ∀ i, i < lk → w.cell? ⟨bk, ok + i, none⟩ = some (.string (ks i))) :
    Calls Yba.prog 4 #[.slice aw n cw, .slice ak lk ck] w fun e w' => ∃ N K, e = .returned (.tuple #[.pointer (some ⟨N 0, 0, none⟩), .slice (some ⟨w.heap.size, 0, none⟩) (n + 1) (n + 1)]) ∧
      Part w' w.heap.size n 0 N K (wdOf z) ∧ Chain w' w.heap.size w.heap.size n 0 N ∧ Below w.heap.size w w' := by
  obtain ⟨i0, hi, hz0, hz1, hz2⟩ := info_parts Yba.info24
  go_enter Yba.func4, Yba.ntmps4
  go_wp2_with (at_make; refine wpList_make_full _ rfl _ _ 25 rfl w.heap.size 24 i0 _ 1 Yba.underlying25 hi hz0 hz1 _ _ _ _ (n + 1) rfl rfl (by omega) (by omega) (by rw [hz2]; omega) (by unfold maxLen; omega) (Nat.le_refl _) ?_; intro w1 hown1 hgrow1)
  go_loopg [8] (n + 1) (fun q j wr => q ≤ n + 1 ∧ j = .int .i64 ((q : Int) - 1) ∧ ∃ N K, Part wr w.heap.size n q N K (wdOf z) ∧ Chain wr w.heap.size w.heap.size n q N ∧ Below w.heap.size w wr)
  case atStart =>
    refine ⟨Nat.le_refl _, by go_num, fun _ => 0, fun _ => 0, ⟨fun i h1 h2 => absurd h1 (by omega), fun i h1 h2 => absurd h1 (by omega)⟩, ⟨_, hown1, fun i h1 h2 => absurd h1 (by omega)⟩, ?_⟩
    exact (Below.refl _ _).grown hgrow1 (Nat.le_refl _) (fun _ h => by cases h)
  case round =>
    obtain ⟨hq, hj, N, K, hP, hC, hbel⟩ := hrel
    obtain ⟨wo, rfl⟩ : ∃ wo : World, wo = wr := ⟨_, rfl⟩
    by_cases h0 : gk = 0
    · subst h0
      subst hj
      have hc0 := hC.cell 0 (Nat.le_refl _) (Nat.zero_le _)
      have hn0 : (0 : Int) < (n : Int) + 1 := by omega
      go_wp2
      go_ret2
      exact ⟨N, K, rfl, hP, hC, hbel⟩
    · obtain ⟨p, rfl⟩ : ∃ p, gk = p + 1 := ⟨gk - 1, by omega⟩
      rw [show ((p + 1 : Nat) : Int) - 1 = (p : Int) from by omega] at hj
      subst hj
      have hp : p ≤ n := by omega
      have hp0 : (0 : Int) ≤ (p : Int) := by omega
      have hp1 : (p : Int) ≤ (n : Int) := by omega
      go_upto_if 29 with fail
      go_cut [] (fun wc => Below wo.heap.size wo wc ∧ wo.heap.size < wc.heap.size ∧ wc.cell? ⟨wo.heap.size, 2, none⟩ = some (.slice none 0 0) ∧ wc.frozen? ⟨wo.heap.size, 2, none⟩ = false)
      case first =>
        by_cases hl0 : 0 < lk
        · obtain ⟨rfl, hbk⟩ := hak.out hl0
          have hm : p % lk < lk := Nat.mod_lt _ hl0
          have hm0 : (0 : Int) ≤ (p : Int) % (lk : Int) := by omega
          have hm1 : (p : Int) % (lk : Int) < (lk : Int) := by rw [← Int.natCast_emod]; omega
          have hbk' : bk < wo.heap.size := Nat.lt_of_lt_of_le hbk hbel.size
          have hks : ∀ o, (wo.alloc o).cell? ⟨bk, ok + p % lk, none⟩ = some (.string (ks (p % lk))) := fun o => (World.cell?_alloc_lt _ _ _ hbk').trans ((hbel.cell (p := ⟨bk, ok + p % lk, none⟩) hbk).trans (hck _ hm))
          go_wp2
          go_meet
          exact ⟨(((Below.refl _ _).alloc (Nat.le_refl _) _).alloc (by simp) _).alloc (by simp; omega) _, by simp; omega, by go_simp, by go_simp⟩
        · go_wp2
          go_meet
          exact ⟨(Below.refl _ _).alloc (Nat.le_refl _) _, by simp, by simp, by simp⟩
      case rest =>
      obtain ⟨hb1, hs1, hv1, hf1⟩ := hcut
      obtain ⟨w2, rfl⟩ : ∃ w2, w2 = wc := ⟨_, rfl⟩
      go_upto_if 47 with fail
      go_cut [] (fun wc => Below wo.heap.size wo wc ∧ wo.heap.size < wc.heap.size ∧ ∃ V, wc.cell? ⟨wo.heap.size, 2, none⟩ = some V ∧
        (p < n → ∃ k, V = .slice (some ⟨k, 0, none⟩) (wdOf z p) (wdOf z p) ∧ wo.heap.size < k ∧ k < wc.heap.size ∧ wc.cell? ⟨k, 0, none⟩ = some (.pointer (some ⟨N (p + 1), 0, none⟩))) ∧ (¬ p < n → V = .slice none 0 0))
      case first =>
        by_cases hpn : p < n
        · obtain ⟨rfl, hbw⟩ := haw.out (by omega)
          have hpn' : (p : Int) < (n : Int) := by omega
          have hpn1 : (p : Int) + 1 < (n : Int) + 1 := by omega
          have hbel2 := hbel.trans (hb1.mono hbel.size)
          have hcz := (hbel2.cell (p := ⟨bw, ow + p, none⟩) hbw).trans (hcw p hpn)
          obtain ⟨z0, z1⟩ := hz p
          have hcl := hC.lt
          have hcc := (hb1.cell (p := ⟨w.heap.size, p + 1, none⟩) hcl).trans (hC.cell (p + 1) (Nat.le_refl _) (by omega))
          have hwd : z p % 4 + 1 = ((wdOf z p : Nat) : Int) := by unfold wdOf; omega
          have hwd4 : wdOf z p ≤ 4 := by unfold wdOf; omega
          have hwd1 : 1 ≤ wdOf z p := by unfold wdOf; omega
          have HW := (show Hid (z p % 4 + 1 = ((wdOf z p : Nat) : Int)) from hwd)
          clear hwd
          have hw2 : (0 : Int) < ((wdOf z p : Nat) : Int) := by omega
          go_wp2_with (at_make; refine wpList_make_full _ rfl _ _ 25 rfl w2.heap.size 24 i0 _ 1 Yba.underlying25 hi hz0 hz1 _ _ _ _ (wdOf z p) rfl rfl HW.out HW.out (by rw [hz2]; omega) (by unfold maxLen; omega) (Nat.le_refl _) ?_; intro w3 hown3 hgrow3; have hb3 := below_made hgrow3; have hcc3 := (hb3.cell (p := ⟨w.heap.size, p + 1, none⟩) (Nat.lt_of_lt_of_le hcl hb1.size)).trans hcc; obtain ⟨v3, hv3⟩ := own_there hown3 0 (by omega); have hf3 := hown3.frozenAt 0)
          have hst3 := (hown3.stored 0 (.pointer (some ⟨N (p + 1), 0, none⟩))).1
          have hbst3 : Below w2.heap.size w2 (w3.setCell ⟨w2.heap.size, 0, none⟩ (.pointer (some ⟨N (p + 1), 0, none⟩))) := hb3.setCell (Nat.le_refl _) _
          have hl3 := hown3.1
          clear hcc3 hv3 hf3 hgrow3 hb3 hown3
          go_loopg [12] (wdOf z p) (fun g t wx => g ≤ wdOf z p ∧ (∃ tn : Nat, t = .int .i64 tn ∧ 1 ≤ tn ∧ tn ≤ wdOf z p ∧ wdOf z p ≤ g + tn) ∧ (∃ xs, wx.ownsRow w2.heap.size 24 1 (.slice (some ⟨w2.heap.size, 0, none⟩) (wdOf z p) (wdOf z p)) (wdOf z p) xs ∧ xs[0]? = some (.pointer (some ⟨N (p + 1), 0, none⟩))) ∧ Below w2.heap.size w2 wx)
          case atStart =>
            refine ⟨Nat.le_refl _, ⟨1, rfl, Nat.le_refl _, by omega, by omega⟩, ⟨_, hst3, ?_⟩, hbst3⟩
            rw [List.getElem?_set_self (by omega)]
          case round =>
            clear hst3 hbst3
            obtain ⟨hg, ⟨tn, rfl, ht1, ht2, ht3⟩, ⟨xs, hox, hx0⟩, hbx⟩ := hrel
            have HW' := HW.out
            by_cases hlt : tn < wdOf z p
            · have hlt' : (tn : Int) < z p % 4 + 1 := by omega
              have hlt2 : (tn : Int) < ((wdOf z p : Nat) : Int) := by omega
              have htn0 : (0 : Int) ≤ (tn : Int) := by omega
              clear HW'
              have hl := hox.1
              obtain ⟨v4, hv4⟩ := own_there hox tn hlt
              have hf4 := hox.frozenAt tn
              have hgl := own_lt hox
              have hv4' : ∀ o, (wr.alloc o).cell? ⟨w2.heap.size, tn, none⟩ = some v4 := fun o => (World.cell?_alloc_lt _ _ _ hgl).trans hv4
              have hf4' : ∀ o, (wr.alloc o).frozen? ⟨w2.heap.size, tn, none⟩ = false := fun o => (World.frozen?_alloc_old _ _ _ (Nat.ne_of_lt hgl)).trans hf4
              go_wp2
              go_roundg (gk - 1)
              case measure => omega
              case rel =>
                refine ⟨by omega, ⟨tn + 1, by go_num, by omega, by omega, by omega⟩, ⟨_, (hox.stored tn _).1.alloc _, ?_⟩, (hbx.setCell (Nat.le_refl _) _).alloc (by simpa [World.setCell] using hbx.size) _⟩
                rw [List.getElem?_set_ne (by omega)]
                exact hx0
            · have hge : ¬ (tn : Int) < z p % 4 + 1 := by omega
              clear HW'
              have hv5 := (hbx.cell (p := ⟨wo.heap.size, 2, none⟩) hs1).trans hv1
              have hf5 := (hbx.frozen (p := ⟨wo.heap.size, 2, none⟩) hs1).trans hf1
              go_wp2
              go_meet
              have hgl := own_lt hox
              have hk0 := (hox.cellAt 0 (by omega)).trans hx0
              refine ⟨(hb1.trans (hbx.mono hb1.size)).setCell (Nat.le_refl _) _, by have := hbx.size; simp [World.setCell]; omega, _, World.cell?_setCell_same _ _ _ hv5, fun _ => ⟨w2.heap.size, rfl, hs1, by simpa [World.setCell] using hgl, ?_⟩, fun h => absurd hpn h⟩
              rw [World.cell?_setCell_other _ _ _ _ (by intro e; injection e; omega)]
              exact hk0
        · go_wp2
          go_meet
          exact ⟨hb1, hs1, _, hv1, fun h => absurd h hpn, fun _ => rfl⟩
      case rest =>
      obtain ⟨hb2, hs2, V, hv2, hk2, hn2⟩ := hcut
      have hst := round_step hP hC hp hb2 hs2 hv2 hk2 hn2
      have hbel3 : Below w.heap.size w (wc.setCell ⟨w.heap.size, p, none⟩ (.pointer (some ⟨wo.heap.size, 0, none⟩))) := (hbel.trans (hb2.mono hbel.size)).setCell (Nat.le_refl _) _
      obtain ⟨v0, hcp⟩ := hC.there p hp
      have hcl := hC.lt
      have hcp2 := (hb2.cell (p := ⟨w.heap.size, p, none⟩) hcl).trans hcp
      have hfp2 := (hb2.frozen (p := ⟨w.heap.size, p, none⟩) hcl).trans (hC.free p)
      have hpn1 : (p : Int) < (n : Int) + 1 := by omega
      go_wp2
      go_roundg p
      case measure => omega
      case rel =>
        obtain ⟨N', K', hP', hC'⟩ := hst
        exact ⟨by omega, by go_num, N', K', hP', hC', hbel3⟩
end Go.Proofs.Ybulkfocw
