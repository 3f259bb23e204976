import Derived.Test.YbulkfodkIns
import Derived.Test.YbulkfodkVerdict
import Derived.Deep.RegionHeld3
import Derived.Deep.LoopGhost
import Derived.Deep.DeepCutAuto
namespace Go.Proofs.Ybulkfodk
open Go.RowKit
theorem Yba.info22 : (Yba.prog.info? 22).map (fun i => (i.zero, i.size, i.bytes)) = some (some (.slice none 0 0), 1, 24) := by kernel_rfl
theorem Yba.info30 : (Yba.prog.info? 30).map (fun i => (i.zero, i.size, i.bytes)) = some (some (.pointer none), 1, 8) := by kernel_rfl
set_option maxRecDepth 100000 in
set_option maxHeartbeats 4000000 in
theorem core (y : ByteArray) (id : Int) (ra : Option Addr) (rm rc : Nat) (rs : Nat → ByteArray) (g : Bool) (aws : Option Addr) (n cws bw ow : Nat) (nl : Nat → Bool) (ia : Nat → Option Addr) (im ic : Nat → Nat) (sg : Nat → Nat → ByteArray) (ab : Nat → Bool) (ek : Nat → Int) (ja : Nat → Option Addr) (jm jc : Nat → Nat) (ap : Nat → Nat → ByteArray) (pb : Nat → Bool) (w : World)
    (hi0 : -9223372036854775808 ≤ id) (hi1 : id ≤ 9223372036854775807) (hn : (n : Int) ≤ 1954687338268) (hrm : (rm : Int) ≤ 8796093022000)
    (hr : Row w 0 ra rm rs) (hrx : g = true → rs rm = ⟨#[103, 117, 97, 114, 100, 105, 97, 110]⟩)
    (haw : Hid (0 < n → aws = some ⟨bw, ow, none⟩)) (hI : Ins w n bw ow y nl ia im ic sg ab ek ja jm jc ap pb) :
    Calls Yba.prog 3 #[.string y, .int .i64 id, .slice ra rm rc, .bool g, .slice aws n cws] w fun e w' => e = .returned (.bool true) ∧ Below w.heap.size w w' := by
  obtain ⟨i22, hi22, hz22, hs22, hy22⟩ := info_parts Yba.info22
  obtain ⟨i9, hi9, hz9, hs9, hy9⟩ := info_parts Yba.info9
  obtain ⟨i30, hi30, hz30, hs30, hy30⟩ := info_parts Yba.info30
  have tok1 : True := trivial
  have tok2 : True := trivial
  have tok3 : True := trivial
  go_enter Yba.func3, Yba.ntmps3
  go_wp2_with fail
  go_loopw [11, 12] (fun t i wx => ∃ k : Nat, k ≤ n ∧ i = .int .i64 k ∧ (∃ tt : Int, t = .int .i64 tt) ∧ ∃ m, wx = w.drewN m) (fun _ i _ => n - (intOf i).toNat)
  case atStart => exact ⟨0, Nat.zero_le _, rfl, ⟨_, rfl⟩, 0, rfl⟩
  case round =>
    obtain ⟨k, hk, rfl, ⟨tt, rfl⟩, m, rfl⟩ := hrel
    by_cases hlt : k < n
    · obtain rfl := haw.out (by omega)
      have c1 := hI.c1 k hlt
      have c4 := hI.c4 k hlt
      have hlt' : (k : Int) < (n : Int) := by omega
      have hk0 : (0 : Int) ≤ (k : Int) := by omega
      go_wp2_with fail
      go_quiet (fail)
      go_wp2
      go_roundw
      case rel => exact ⟨k + 1, by omega, by go_num, ⟨_, rfl⟩, m + nq, by first | rfl | rw [World.drewN_drewN]⟩
      case measure => simp [intOf]; omega
    · by_cases htt : (1048576 : Int) < tt
      · go_wp2
        go_ret
        exact ⟨rfl, below_drewN (Below.refl _ _) _⟩
      · go_wp2_with fail
        have hb00 : Below w.heap.size w (w.drewN m) := below_drewN (Below.refl _ _) _
        have hI0 := hI.keep hb00
        have hr0 := hr.below hb00
        generalize w.drewN m = W0 at hb00 hI0 hr0 ⊢
        have hup := up_le rm g
        refine (copy_any ra rm rc 0 rs _ g _ (by omega) hr0 hrx).mono ?_
        rintro e W1 ⟨ra1, rc1, rfl, -, hr1, hb1⟩
        generalize up rm g = rn at hup hr1 ⊢
        go_wp2_with fail
        refine (copy_same ra1 rn rc1 W0.heap.size rs _ _ (by omega) hr1).mono ?_
        rintro e W2 ⟨ra2, rc2, rfl, hrn2, hr2, hb2⟩
        have hb02 := (hb00.trans (hb1.mono hb00.size)).trans (hb2.mono (Nat.le_trans hb00.size hb1.size))
        have hr1' := hr1.below hb2
        have HN := (show Hid _ from hrn2)
        clear hrn2 hb00 hb1 hb2 hr0 hI0 hr1
        have z2 := hb02.size
        go_wp2_with (first
          | (at_make; have _t := tok1; refine wpList_make_full _ rfl _ _ 27 rfl W2.heap.size 22 i22 _ 1 Yba.underlying27 hi22 hz22 hs22 _ _ _ _ n rfl rfl rfl rfl (by rw [hy22]; omega) (by unfold maxLen; omega) (by omega) ?_; intro x3 oS gS; have zS := gS.size; clear tok1)
          | (at_make; have _t := tok2; refine wpList_make_full _ rfl _ _ 27 rfl W2.heap.size 22 i22 _ 1 Yba.underlying27 hi22 hz22 hs22 _ _ _ _ n rfl rfl rfl rfl (by rw [hy22]; omega) (by unfold maxLen; omega) (by omega) ?_; intro x4 oA gA; have zA := gA.size; clear tok2)
          | (at_make; have _t := tok3; refine wpList_make_full _ rfl _ _ 22 rfl W2.heap.size 9 i9 _ 1 Yba.underlying22 hi9 hz9 hs9 _ _ _ _ n rfl rfl rfl rfl (by rw [hy9]; omega) (by unfold maxLen; omega) (by omega) ?_; intro x5 oE gE; have zE := gE.size; clear tok3)
          | (at_make; refine wpList_make_full _ rfl _ _ 28 rfl W2.heap.size 30 i30 _ 1 Yba.underlying28 hi30 hz30 hs30 _ _ _ _ n rfl rfl rfl rfl (by rw [hy30]; omega) (by unfold maxLen; omega) (by omega) ?_; intro x6 oW gW))
        rw [Nat.mul_one] at oW
        have LD := Laid.born (nl := nl) (sn := fun i => up (im i) (ab i)) (an := fun i => up (jm i) (pb i)) (sg := sg) (ap := ap) (en := fun i => endS (ek i)) (Below.refl W2.heap.size W2) oS gS oA gA oE gE oW gW
        have hI2 := hI.keep hb02
        clear oS gS oA gA oE gE oW gW zS zA zE hI hr
        generalize x3.heap.size = AB at LD ⊢
        generalize x4.heap.size = EB at LD ⊢
        generalize x5.heap.size = WB at LD ⊢
        generalize x6.heap.size = L at LD
        go_loopw [19] (fun i wx => ∃ k : Nat, k ≤ n ∧ i = .int .i64 k ∧ Laid W2 wx n W2.heap.size AB EB WB L k nl (fun i => up (im i) (ab i)) (fun i => up (jm i) (pb i)) sg ap (fun i => endS (ek i))) (fun i _ => n - (intOf i).toNat)
        case atStart => exact ⟨0, Nat.zero_le _, rfl, LD⟩
        case round =>
          obtain ⟨k2, hk2, rfl, LK⟩ := hrel
          clear LD
          by_cases hlt2 : k2 < n
          · obtain rfl := haw.out (by omega)
            have hlt2' : (k2 : Int) < (n : Int) := by omega
            have hk20 : (0 : Int) ≤ (k2 : Int) := by omega
            obtain ⟨xs, as0, es, ws, HL, hE0, hEz⟩ := LK.rows
            have hIr := hI2.keep HL.bl
            have i0 := hIr.c0 k2 hlt2
            cases hnl : nl k2
            · rw [hnl] at i0
              as_aux_lemma =>
                  have i1 := hIr.c1 k2 hlt2
                  have i2 := hIr.c2 k2 hlt2
                  obtain ⟨vS, -, hvS⟩ := own_there HL.oS k2 hlt2
                  have hfS := HL.oS.frozenAt k2
                  have lbw := hIr.lt (by omega)
                  have lbw2 := hI2.lt (by omega)
                  have lS := own_lt HL.oS
                  have hbS0 := hIr.bS k2 hlt2
                  have hne : (⟨W2.heap.size, k2, none⟩ : Addr) ≠ ⟨bw, ow + k2 * 6 + 1, none⟩ := by intro e; injection e; omega
                  have hne2 : (⟨W2.heap.size, k2, none⟩ : Addr) ≠ ⟨bw, ow + k2 * 6 + 2, none⟩ := by intro e; injection e; omega
                  go_wp2_with fail
                  go_region_held3 (fun w' => w'.cell? ⟨bw, ow + k2 * 6 + 1, none⟩ = some (.slice (ia k2) (im k2) (ic k2)) ∧ w'.cell? ⟨bw, ow + k2 * 6 + 2, none⟩ = some (.bool (ab k2)))
                    (first | go_keep | (go_split_ands; refine ⟨(hbS.cell (p := ⟨bw, _, none⟩) lbw).trans ?_, (hbS.cell (p := ⟨bw, _, none⟩) lbw).trans ?_⟩ <;> assumption) | (go_split_ands; refine ⟨(World.cell?_setCell_other _ _ _ _ hne).trans ?_, (World.cell?_setCell_other _ _ _ _ hne2).trans ?_⟩ <;> assumption))
                    (first | (go_at_call 4; refine (copy_any (ia k2) (im k2) (ic k2) 0 (sg k2) y (ab k2) _ (by omega) (by exact hIr.rS k2 hlt2) (hIr.xS k2 hlt2)).mono ?_; rintro e x1 ⟨sa, sc, rfl, -, hrS, hbS⟩; have hvS1 := (hbS.cell (p := ⟨W2.heap.size, k2, none⟩) lS).trans hvS; have hfS1 := (hbS.frozen (p := ⟨W2.heap.size, k2, none⟩) lS).trans hfS))
                  have hbS' := ((Below.refl wr.heap.size wr).drew).trans hbS
                  have rSL : W2.heap.size < L := by have := HL.r2; have := HL.r3; have := HL.r4; have := HL.r5; omega
                  have rAL : AB < L := by have := HL.r3; have := HL.r4; have := HL.r5; omega
                  have rEL : EB < L := by have := HL.r4; have := HL.r5; omega
                  have rWL := HL.r5
                  have rA2 : bw < AB := by have := HL.r2; omega
                  have rE2 : bw < EB := by have := HL.r2; have := HL.r3; omega
                  have lz := HL.lz
                  have H1 := (HL.below hbS').setS k2 (.slice sa (up (im k2) (ab k2)) sc)
                  have hrS1 := (hrS.low (by exact lz)).keep ((Kept.refl L x1).setCell (p := ⟨W2.heap.size, k2, none⟩) (Or.inl rSL) (.slice sa (up (im k2) (ab k2)) sc))
                  clear hbS hbS' hvS1 hfS1 hvS hfS hne hne2 hrS i1 i2 hIr HL i0 LK
                  generalize x1.setCell ⟨W2.heap.size, k2, none⟩ (.slice sa (up (im k2) (ab k2)) sc) = x2 at H1 hrS1 ⊢
                  -- the approvals
                  have hIx := hI2.keep H1.bl
                  have i4 := hIx.c4 k2 hlt2
                  have i5 := hIx.c5 k2 hlt2
                  obtain ⟨vA, -, hvA⟩ := own_there H1.oA k2 hlt2
                  have hfA := H1.oA.frozenAt k2
                  have lbw3 := hIx.lt (by omega)
                  have lA := own_lt H1.oA
                  have hbA0 := hIx.bA k2 hlt2
                  have hne : (⟨AB, k2, none⟩ : Addr) ≠ ⟨bw, ow + k2 * 6 + 4, none⟩ := by intro e; injection e; omega
                  have hne2 : (⟨AB, k2, none⟩ : Addr) ≠ ⟨bw, ow + k2 * 6 + 5, none⟩ := by intro e; injection e; omega
                  go_wp2_with fail
                  go_region_held3 (fun w' => w'.cell? ⟨bw, ow + k2 * 6 + 4, none⟩ = some (.slice (ja k2) (jm k2) (jc k2)) ∧ w'.cell? ⟨bw, ow + k2 * 6 + 5, none⟩ = some (.bool (pb k2)))
                    (first | go_keep | (go_split_ands; refine ⟨(hbA.cell (p := ⟨bw, _, none⟩) lbw3).trans ?_, (hbA.cell (p := ⟨bw, _, none⟩) lbw3).trans ?_⟩ <;> assumption) | (go_split_ands; refine ⟨(World.cell?_setCell_other _ _ _ _ hne).trans ?_, (World.cell?_setCell_other _ _ _ _ hne2).trans ?_⟩ <;> assumption))
                    (first | (go_at_call 4; refine (copy_any (ja k2) (jm k2) (jc k2) 0 (ap k2) y (pb k2) _ (by omega) (by exact hIx.rA k2 hlt2) (hIx.xA k2 hlt2)).mono ?_; rintro e x3a ⟨aa, ac, rfl, -, hrA, hbA⟩; have hvA1 := (hbA.cell (p := ⟨AB, k2, none⟩) lA).trans hvA; have hfA1 := (hbA.frozen (p := ⟨AB, k2, none⟩) lA).trans hfA))
                  have hbA' := ((Below.refl x2.heap.size x2).drew).trans hbA
                  have H2 := (H1.below hbA').setA k2 (.slice aa (up (jm k2) (pb k2)) ac)
                  have hrS2 := (hrS1.below hbA').keep ((Kept.refl L x3a).setCell (p := ⟨AB, k2, none⟩) (Or.inl rAL) (.slice aa (up (jm k2) (pb k2)) ac))
                  have hrA2 := (hrA.low (by exact H1.sizes)).keep ((Kept.refl L x3a).setCell (p := ⟨AB, k2, none⟩) (Or.inl rAL) (.slice aa (up (jm k2) (pb k2)) ac))
                  clear hbA hbA' hvA1 hfA1 hvA hfA hne hne2 hrA i4 i5 hIx H1 hrS1
                  generalize x3a.setCell ⟨AB, k2, none⟩ (.slice aa (up (jm k2) (pb k2)) ac) = x4a at H2 hrS2 hrA2 ⊢
                  -- the status
                  have hIx := hI2.keep H2.bl
                  have i3 := hIx.c3 k2 hlt2
                  obtain ⟨e0, e1⟩ := hIx.e0 k2 hlt2
                  obtain ⟨vE, -, hvE⟩ := own_there H2.oE k2 hlt2
                  have hfE := H2.oE.frozenAt k2
                  go_wp2_with fail
                  refine (ended_any (ek k2) _ e0 e1).mono ?_
                  rintro e x5a ⟨rfl, hx5⟩
                  rw [hx5]
                  clear hx5
                  go_upto_region 21 with fail
                  have H3 := H2.setE k2 (.string (endS (ek k2)))
                  have hrS3 := hrS2.keep ((Kept.refl L x4a).setCell (p := ⟨EB, k2, none⟩) (Or.inl rEL) (.string (endS (ek k2))))
                  have hrA3 := hrA2.keep ((Kept.refl L x4a).setCell (p := ⟨EB, k2, none⟩) (Or.inl rEL) (.string (endS (ek k2))))
                  clear hvE hfE i3 hIx H2 hrS2 hrA2
                  generalize x4a.setCell ⟨EB, k2, none⟩ (.string (endS (ek k2))) = x6a at H3 hrS3 hrA3 ⊢
                  -- the withdrawal
                  have cA : x6a.cell? ⟨AB, k2, none⟩ = some (.slice aa (up (jm k2) (pb k2)) ac) := (H3.oA.cellAt k2 (by omega)).trans (by have := H3.oA.1; rw [List.length_set] at this; exact List.getElem?_set_self (by omega))
                  have hupA := up_le (jm k2) (pb k2)
                  have hupS := up_le (im k2) (ab k2)
                  go_wp2_with fail
                  refine (copy_same aa (up (jm k2) (pb k2)) ac L (ap k2) _ _ (by omega) hrA3).mono ?_
                  rintro e x7 ⟨aa', ac', rfl, hnA, hrA', hb7⟩
                  have H4 := H3.below hb7
                  have hrS4 := hrS3.below hb7
                  have hrA4 := hrA3.below hb7
                  have hrA'4 := hrA'.low H3.sizes
                  have HNA := (show Hid _ from hnA)
                  have z7 := H4.kp.size
                  have z7L := H4.sizes
                  clear cA H3 hrS3 hrA3 hrA' hb7 hnA
                  have cS : ∀ o, (x7.alloc o).cell? ⟨W2.heap.size, k2, none⟩ = some (.slice sa (up (im k2) (ab k2)) sc) := fun o => (World.cell?_alloc_lt _ _ _ (by show W2.heap.size < _; omega)).trans ((H4.oS.cellAt k2 (by omega)).trans (by have := H4.oS.1; rw [List.length_set] at this; exact List.getElem?_set_self (by omega)))
                  go_wp2_with fail
                  refine (copy_same sa (up (im k2) (ab k2)) sc L (sg k2) _ _ (by omega) (by exact hrS4.below ((Below.refl _ _).alloc (Nat.le_refl _) _))).mono ?_
                  rintro e x8 ⟨sa', sc', rfl, hnS, hrS', hb8⟩
                  have z8 : x7.heap.size + 1 ≤ x8.heap.size := by have := hb8.size; simp at this; omega
                  have lt8 : x7.heap.size < x7.heap.size + 1 := by omega
                  have w5 := (hb8.cell (p := ⟨x7.heap.size, 5, none⟩) (by simp)).trans (World.cell?_alloc_new _ _ _ _)
                  have w15 := (hb8.cell (p := ⟨x7.heap.size, 15, none⟩) (by simp)).trans (World.cell?_alloc_new _ _ _ _)
                  have w16 := (hb8.cell (p := ⟨x7.heap.size, 16, none⟩) (by simp)).trans (World.cell?_alloc_new _ _ _ _)
                  have w17 := (hb8.cell (p := ⟨x7.heap.size, 17, none⟩) (by simp)).trans (World.cell?_alloc_new _ _ _ _)
                  have f5 := (hb8.frozen (p := ⟨x7.heap.size, 5, none⟩) (by simp)).trans (World.frozen?_alloc_new _ _ _ _)
                  have f15 := (hb8.frozen (p := ⟨x7.heap.size, 15, none⟩) (by simp)).trans (World.frozen?_alloc_new _ _ _ _)
                  simp at w5 w15 w16 w17
                  have hba : Below x7.heap.size x7 x8 := ((Below.refl _ _).alloc (Nat.le_refl _) _).trans (hb8.mono (by simp))
                  have H5 := H4.below hba
                  have eE : x8.cell? ⟨EB, k2, none⟩ = some (.string (endS (ek k2))) := (H5.oE.cellAt k2 (by omega)).trans (by have := H5.oE.1; rw [List.length_set] at this; exact List.getElem?_set_self (by omega))
                  obtain ⟨vW, -, hvW⟩ := own_there H5.oW k2 hlt2
                  have hfW := H5.oW.frozenAt k2
                  have n1 : ¬ x7.heap.size = EB := by omega
                  have n2 : ¬ x7.heap.size = WB := by omega
                  have HF := ((H5.setNew (p := ⟨x7.heap.size, 5, none⟩) (by exact z7) (.slice sa' (up (im k2) (ab k2)) sc')).setNew (p := ⟨x7.heap.size, 15, none⟩) (by exact z7) (.string (endS (ek k2)))).setW k2 (.pointer (some ⟨x7.heap.size, 0, none⟩))
                  have KX := (((Kept.of_below (L := L) hba).setCell (p := ⟨x7.heap.size, 5, none⟩) (Or.inr (Nat.le_refl _)) (.slice sa' (up (im k2) (ab k2)) sc')).setCell (p := ⟨x7.heap.size, 15, none⟩) (Or.inr (Nat.le_refl _)) (.string (endS (ek k2)))).setCell (p := ⟨WB, k2, none⟩) (Or.inl rWL) (.pointer (some ⟨x7.heap.size, 0, none⟩))
                  have KY := (((Kept.refl (x7.heap.size + 1) x8).setCell (p := ⟨x7.heap.size, 5, none⟩) (Or.inl lt8) (.slice sa' (up (im k2) (ab k2)) sc')).setCell (p := ⟨x7.heap.size, 15, none⟩) (Or.inl lt8) (.string (endS (ek k2)))).setCell (p := ⟨WB, k2, none⟩) (Or.inl (by show WB < x7.heap.size + 1; omega)) (.pointer (some ⟨x7.heap.size, 0, none⟩))
                  obtain ⟨d5, d15, d16, d17⟩ := fin_cells (x := x8) (Wk := x7.heap.size) (WB := WB) (k := k2) (by omega) (.slice sa' (up (im k2) (ab k2)) sc') (.string (endS (ek k2))) (.pointer (some ⟨x7.heap.size, 0, none⟩)) w5 w15
                  have hrS'5 := ((hrS'.low (by simp)).keep KY).low (L' := L) (by omega)
                  have hrS5 := hrS4.keep KX
                  have hrA5 := hrA4.keep KX
                  have hrA'5 := hrA'4.keep KX
                  have ENT : Entry _ L (nl k2) _ _ _ _ (up (im k2) (ab k2)) (up (jm k2) (pb k2)) (sg k2) (ap k2) (endS (ek k2)) :=
                    ⟨fun h => (by rw [hnl] at h; cases h), fun _ => ⟨sa, sc, aa, ac, x7.heap.size, sa', sc', aa', ac', rfl, hrS5, rfl, hrA5, rfl, rfl, ⟨by omega, by have := KY.size; omega, d5, d15, d16.trans w16, d17.trans w17, hrS'5, hrA'5⟩, hnS, HNA.out⟩⟩
                  have LN := Laid.step (nl := nl) (sn := fun i => up (im i) (ab i)) (an := fun i => up (jm i) (pb i)) (sg := sg) (ap := ap) (en := fun i => endS (ek i)) hlt2 hE0 hEz HF ENT
                  clear hrS'5 hrS5 hrA5 hrA'5 ENT KX KY d5 d15 d16 d17 HF hrS' hrS4 hrA4 hrA'4 HNA hb8 hba hnS H4 H5 w16 w17 hE0 hEz cS
                  go_wp2
                  go_roundw
                  case rel => exact ⟨k2 + 1, by omega, by go_num, LN⟩
                  case measure => simp [intOf]; omega
            · rw [hnl] at i0
              go_wp2
              go_roundw
              case rel => exact ⟨k2 + 1, by omega, by go_num, LK.skip hlt2 hnl⟩
              case measure => simp [intOf]; omega
          · obtain rfl : n = k2 := by omega
            have hmm := @run_makeMap Yba.prog
            have hup1 := fun v => upd_one wr y v
            obtain ⟨xs, as0, es, ws, HL, -, -⟩ := LK.rows
            have hblr := HL.bl
            clear HL
            have hr1r := (hr1'.below hblr).low (Nat.zero_le _)
            have hr2r := (hr2.below hblr).low (Nat.zero_le _)
            go_wp2_with fail
            refine (has_any ra2 rn rc2 0 rs _ _ (by omega) (by exact hr2r.below (((Below.refl _ _).alloc (Nat.le_refl _) _).alloc (by simp) _))).mono ?_
            rintro e X ⟨rfl, hX⟩
            have hbX : Below wr.heap.size wr X := by rw [hX]; exact ((Below.refl _ _).alloc (Nat.le_refl _) _).alloc (by simp) _
            have e17 : X.cell? ⟨wr.heap.size + 1, 17, none⟩ = some (.map (some wr.heap.size)) := by rw [hX]; go_simp
            have e25 : X.cell? ⟨wr.heap.size + 1, 25, none⟩ = some (.slice (some ⟨WB, 0, none⟩) n n) := by rw [hX]; go_simp
            have eM : X.heap[wr.heap.size]? = some (.map #[⟨.string y, .slice ra1 rn rc1, 0⟩] 1) := by rw [hX, Below.heap_alloc _ _ _ (by simp)]; exact (MapKept.heap_alloc wr _).1
            have zX : wr.heap.size + 1 < X.heap.size := by rw [hX]; simp
            clear hX
            have LX := LK.below hbX
            have hblX := hblr.trans (hbX.mono hblr.size)
            have hr1X := hr1r.below hbX
            have hr2X := hr2r.below hbX
            have hIX := hI2.keep hblX
            have hbwX := hb02.trans (hblX.mono hb02.size)
            clear LK hblr hbX hr1r hr2r hI2 hr1' hr2 hup1 hmm
            generalize wr.heap.size = M at e17 e25 eM zX ⊢
            obtain ⟨W, N, hV⟩ := verdict (hasB rs rn ⟨#[103, 117, 97, 114, 100, 105, 97, 110]⟩) n id nl (fun i => hasB (sg i) (up (im i) (ab i)) y) (fun i => hasB (ap i) (up (jm i) (pb i)) y) (fun i => endS (ek i)) (fun i => up (jm i) (pb i))
            have HV := (show Hid _ from hV)
            clear hV
            go_upto_if 172 with fail
            go_cut [22, 23, 24] from 171 to 219 (fun v22 v23 _ wc => v22 = .string W ∧ v23 = .int .i64 N ∧ X = wc)
            case first =>
              rcases HV.out with ⟨h1, rfl, rfl⟩ | ⟨h1, h2, rfl, rfl⟩ | ⟨h1, kk, hkk, rfl, h⟩
              · as_aux_lemma =>
                  clear HV
                  rw [h1]
                  go_wp2_with fail
                  go_meet
                  exact ⟨rfl, rfl, rfl⟩
              · as_aux_lemma =>
                  clear HV
                  rw [h1]
                  by_cases h3 : id < 1
                  · clear h2
                    go_wp2_with fail
                    go_meet
                    exact ⟨rfl, rfl, rfl⟩
                  · have h4 : (n : Int) < id := by omega
                    clear h2
                    go_wp2_with fail
                    go_meet
                    exact ⟨rfl, rfl, rfl⟩
              · clear HV
                rw [h1]
                clear hi0 hi1 h1
                obtain rfl := haw.out (by omega)
                have i0 := hIX.c0 kk hkk
                have hk1 : (kk : Int) < (n : Int) := by omega
                have hk2' : (0 : Int) ≤ (kk : Int) := by omega
                have hk3 : ¬ (kk : Int) + 1 < 1 := by omega
                have hk4 : ¬ (n : Int) < (kk : Int) + 1 := by omega
                have hupA := up_le (jm kk) (pb kk)
                have hupS := up_le (im kk) (ab kk)
                have hbA0 := hIX.bA kk hkk
                have hbS0 := hIX.bS kk hkk
                rcases h with ⟨h3, rfl, rfl⟩ | ⟨h3, h⟩ | ⟨h3, h⟩ | ⟨h3, h⟩ | ⟨h3, h⟩ | ⟨h3, h⟩
                · as_aux_lemma =>
                    rw [h3] at i0
                    go_wp2_with fail
                    go_meet
                    exact ⟨rfl, rfl, rfl⟩
                · as_aux_lemma =>
                    obtain ⟨h4, rfl, rfl⟩ := h
                    rw [h3] at i0
                    obtain ⟨sa, sc, aa, ac, Wk, sa', sc', aa', ac', cS, hrS, cA, hrA, cE, -, -, -, -⟩ := (LX.entry kk hkk).2 h3
                    have HrS := (show Hid _ from hrS)
                    have HrA := (show Hid _ from hrA)
                    clear hrS hrA
                    go_wp2_with fail
                    refine (has_any sa (up (im kk) (ab kk)) sc L (sg kk) y _ (by omega) HrS).mono ?_
                    rintro e w' ⟨rfl, hw'⟩
                    rw [hw']
                    clear hw'
                    rw [h4]
                    go_wp2_with fail
                    go_meet
                    exact ⟨rfl, rfl, rfl⟩
                · as_aux_lemma =>
                    obtain ⟨h4, h5, rfl, rfl⟩ := h
                    rw [h3] at i0
                    obtain ⟨sa, sc, aa, ac, Wk, sa', sc', aa', ac', cS, hrS, cA, hrA, cE, -, -, -, -⟩ := (LX.entry kk hkk).2 h3
                    have HrS := (show Hid _ from hrS)
                    have HrA := (show Hid _ from hrA)
                    clear hrS hrA
                    go_wp2_with fail
                    refine (has_any sa (up (im kk) (ab kk)) sc L (sg kk) y _ (by omega) HrS).mono ?_
                    rintro e w' ⟨rfl, hw'⟩
                    rw [hw']
                    clear hw'
                    rw [h4]
                    go_wp2_with fail
                    go_meet
                    exact ⟨rfl, rfl, rfl⟩
                · as_aux_lemma =>
                    obtain ⟨h4, h5, h6, rfl, rfl⟩ := h
                    rw [h3] at i0
                    obtain ⟨sa, sc, aa, ac, Wk, sa', sc', aa', ac', cS, hrS, cA, hrA, cE, -, -, -, -⟩ := (LX.entry kk hkk).2 h3
                    have HrS := (show Hid _ from hrS)
                    have HrA := (show Hid _ from hrA)
                    clear hrS hrA
                    go_wp2_with fail
                    refine (has_any sa (up (im kk) (ab kk)) sc L (sg kk) y _ (by omega) HrS).mono ?_
                    rintro e w' ⟨rfl, hw'⟩
                    rw [hw']
                    clear hw'
                    rw [h4]
                    go_wp2_with fail
                    go_meet
                    exact ⟨rfl, rfl, rfl⟩
                · as_aux_lemma =>
                    obtain ⟨h4, h5, h6, h7, rfl, rfl⟩ := h
                    rw [h3] at i0
                    obtain ⟨sa, sc, aa, ac, Wk, sa', sc', aa', ac', cS, hrS, cA, hrA, cE, -, -, -, -⟩ := (LX.entry kk hkk).2 h3
                    have HrS := (show Hid _ from hrS)
                    have HrA := (show Hid _ from hrA)
                    clear hrS hrA
                    go_wp2_with fail
                    refine (has_any sa (up (im kk) (ab kk)) sc L (sg kk) y _ (by omega) HrS).mono ?_
                    rintro e w' ⟨rfl, hw'⟩
                    rw [hw']
                    clear hw'
                    rw [h4]
                    go_wp2_with fail
                    refine (has_any aa (up (jm kk) (pb kk)) ac L (ap kk) y _ (by omega) HrA).mono ?_
                    rintro e w' ⟨rfl, hw'⟩
                    rw [hw']
                    clear hw'
                    rw [h7]
                    go_wp2_with fail
                    go_meet
                    exact ⟨rfl, rfl, rfl⟩
                · as_aux_lemma =>
                    obtain ⟨h4, h5, h6, h7, rfl, rfl⟩ := h
                    rw [h3] at i0
                    obtain ⟨sa, sc, aa, ac, Wk, sa', sc', aa', ac', cS, hrS, cA, hrA, cE, -, -, -, -⟩ := (LX.entry kk hkk).2 h3
                    have HrS := (show Hid _ from hrS)
                    have HrA := (show Hid _ from hrA)
                    clear hrS hrA
                    go_wp2_with fail
                    refine (has_any sa (up (im kk) (ab kk)) sc L (sg kk) y _ (by omega) HrS).mono ?_
                    rintro e w' ⟨rfl, hw'⟩
                    rw [hw']
                    clear hw'
                    rw [h4]
                    go_wp2_with fail
                    refine (has_any aa (up (jm kk) (pb kk)) ac L (ap kk) y _ (by omega) HrA).mono ?_
                    rintro e w' ⟨rfl, hw'⟩
                    rw [hw']
                    clear hw'
                    rw [h7]
                    go_wp2_with fail
                    go_meet
                    exact ⟨rfl, rfl, rfl⟩
            case rest =>
            obtain ⟨rfl, rfl, rfl⟩ := hcut
            clear hi22 hz22 hs22 hy22 hi9 hz9 hs9 hy9 hi30 hz30 hs30 hy30
            have hbC : Below X.heap.size X (X.alloc (.cells #[.string y, .int .i64 id] 66)) := (Below.refl _ _).alloc (Nat.le_refl _) _
            have hup2 : ∀ i, i < n → (up (im i) (ab i) : Int) ≤ 9223372036854775806 := fun i hi => by have := up_le (im i) (ab i); have := hIX.bS i hi; omega
            have hup3 : ∀ i, i < n → (up (jm i) (pb i) : Int) ≤ 9223372036854775805 := fun i hi => by have := up_le (jm i) (pb i); have := hIX.bA i hi; omega
            have LC := LX.below hbC
            have lWX : WB < X.heap.size := by obtain ⟨_, _, _, _, HLX, -, -⟩ := LX.rows; exact own_lt HLX.oW
            have EC : Eng (X.alloc (.cells #[.string y, .int .i64 id] 66)) 0 (M + 1) X.heap.size M WB n y id ra1 rn rc1 rs :=
              ⟨by simp, by simp; omega, by simp; omega, by simp; omega, by simp, by simp, (hbC.cell (p := ⟨M + 1, 17, none⟩) zX).trans e17, (hbC.block M (by omega)).trans eM, (hbC.cell (p := ⟨M + 1, 25, none⟩) zX).trans e25, hr1X.below hbC⟩
            have HU2 := (show Hid _ from hup2)
            have HU3 := (show Hid _ from hup3)
            clear hup2 hup3 e17 e25 eM LX
            go_wp2_with fail
            refine (decide_all (M + 1) X.heap.size M W2.heap.size AB EB WB L n y id ra1 rn rc1 rs _ nl _ _ sg ap _ W N (by omega) (by omega) HU2.out HU3.out EC (fun i hi => LC.entry i hi) HV.out).mono ?_
            rintro e X2 hO
            have hbX2 : Below (X.alloc (.cells #[.string y, .int .i64 id] 66)).heap.size (X.alloc (.cells #[.string y, .int .i64 id] 66)) X2 := by
              rcases hO with ⟨-, P, -, -, -, hb⟩ | ⟨-, m, -, P, Q, -, -, -, -, -, hb⟩ <;> exact hb
            have E2 := EC.keep hbX2
            have L2 := LC.below hbX2
            have hblX2 := (hblX.trans (hbC.mono hblX.size)).trans (hbX2.mono (Nat.le_trans hblX.size hbC.size))
            have hbwX2 := hb02.trans (hblX2.mono hb02.size)
            have hr2X2 := (hr2X.below hbC).below hbX2
            have hIX2 := (hIX.keep hbC).keep hbX2
            obtain ⟨v26, v27, rfl, hO'⟩ : ∃ v26 v27, e = .returned (.tuple #[v26, v27]) ∧ ((W.toList.isEmpty = false ∧ ∃ P, v26 = .slice none 0 0 ∧ v27 = .iface 72 (.pointer (some ⟨P, 0, none⟩)) ∧ X2.cell? ⟨P, 0, none⟩ = some (.string W)) ∨
                (W = ⟨#[]⟩ ∧ ∃ (m : Nat) (P Q : Nat), N = (m : Int) + 1 ∧ v26 = .slice (some ⟨Q, 0, none⟩) 1 1 ∧ v27 = .nilIface ∧ X2.cell? ⟨Q, 0, none⟩ = some (.iface 76 (.pointer (some ⟨P, 0, none⟩))) ∧ X2.cell? ⟨P, 0, none⟩ = some (.int .i64 id) ∧ X2.cell? ⟨P, 1, none⟩ = some (.string y) ∧ X2.cell? ⟨P, 2, none⟩ = some (.int .i64 ((m : Int) + 1)))) := by
              rcases hO with ⟨hW, P, rfl, h1, h2, h3⟩ | ⟨rfl, m, rfl, P, Q, rfl, h1, h2, h3, h4, h5⟩
              · exact ⟨_, _, rfl, Or.inl ⟨hW, P, rfl, rfl, h1⟩⟩
              · exact ⟨_, _, rfl, Or.inr ⟨rfl, m, P, Q, rfl, rfl, rfl, h1, h2, h3, h4⟩⟩
            have HO := (show Hid _ from hO')
            clear hO hO' EC LC hblX hr2X hIX hbwX hr1X hbX2 hbC HU2 HU3 HV
            generalize X.heap.size = Cb at E2 ⊢
            go_upto_if 232 with fail
            go_cut [28, 29, 30, 31] from 231 to 301 (fun _ _ _ _ wc => X2 = wc)
            case first =>
              rcases HO.out with ⟨hW, P, rfl, rfl, hP⟩ | ⟨rfl, m2, P, Q, rfl, rfl, rfl, hQ, hP0, hP1, hP2⟩
              · as_aux_lemma =>
                  clear HO
                  rw [hW]
                  have t1 := ta72
                  have q67 : ∀ (w : World) (a : Option Addr) (n c n' c' : Nat), (binOp .neq 67 (.slice a n c) (.slice none n' c')).run Yba.prog w = .ok (.bool !a.isNone) w := fun w a n c n' c' => run_neq_slice_nil_any w _ _ a n c n' c' Yba.underlying67
                  go_wp2_with fail
                  go_meet
                  rfl
              · as_aux_lemma =>
                  clear HO
                  rw [no_text]
                  have t1 := ta76
                  go_wp2_with fail
                  go_meet
                  rfl
            case rest =>
            obtain rfl := hcut
            have c17 := E2.c17
            have c25 := E2.c25
            have by0 := E2.by0
            have id0 := E2.id0
            have hlen := len_one E2.map
            have hlook := look_one y _ E2.map
            go_wp2_with fail
            refine (eq_any ra1 ra2 rn rc1 rc2 0 0 rs _ (by omega) E2.row hr2X2 HN.out.symm).mono ?_
            rintro e X3 ⟨rfl, m3, hX3⟩
            rw [hX3]
            clear hX3 by0 id0 hlen hlook c17
            go_wp2_with fail
            go_loopw [32] (fun i wx => ∃ k : Nat, k ≤ n ∧ i = .int .i64 k ∧ ∃ m, wx = X2.drewN m) (fun i _ => n - (intOf i).toNat)
            case atStart => exact ⟨0, Nat.zero_le _, rfl, m3, rfl⟩
            case round =>
              obtain ⟨q, hq, rfl, m4, rfl⟩ := hrel
              by_cases hlt3 : q < n
              · obtain rfl := haw.out (by omega)
                have hq1 : (q : Int) < (n : Int) := by omega
                have hq0 : (0 : Int) ≤ (q : Int) := by omega
                have i0 := hIX2.c0 q hlt3
                have EN := L2.entry q hlt3
                cases hnl : nl q
                · rw [hnl] at i0
                  as_aux_lemma =>
                      obtain ⟨sa, sc, aa, ac, Wk, sa', sc', aa', ac', cS, hrS, cA, hrA, cE, cW, D, hnS, hnA⟩ := EN.2 hnl
                      have hupA := up_le (jm q) (pb q)
                      have hupS := up_le (im q) (ab q)
                      have hbA0 := hIX2.bA q hlt3
                      have hbS0 := hIX2.bS q hlt3
                      have HnS := (show Hid _ from hnS)
                      have HnA := (show Hid _ from hnA)
                      clear hnS hnA EN
                      go_wp2_with fail
                      have hKq : Kept L X2 (X2.drewN m4) := Kept.of_below (below_drewN (Below.refl _ _) _)
                      have Dq := D.keep hKq
                      have HrS := (show Hid _ from hrS.keep hKq)
                      have HrA := (show Hid _ from hrA.keep hKq)
                      have cS' : (X2.drewN m4).cell? ⟨W2.heap.size, q, none⟩ = _ := cS
                      have cA' : (X2.drewN m4).cell? ⟨AB, q, none⟩ = _ := cA
                      have cE' : (X2.drewN m4).cell? ⟨EB, q, none⟩ = _ := cE
                      clear hKq D hrS hrA cS cA cE cW c25
                      generalize hXq : X2.drewN m4 = Xq at Dq HrS HrA cS' cA' cE' ⊢
                      have HXq := (show Hid _ from hXq)
                      have d5 := Dq.c5
                      have d15 := Dq.c15
                      have d16 := Dq.c16
                      have d17 := Dq.c17
                      clear hXq
                      go_quiet (first | (go_at_call_of 8 (Value.slice sa' (up (im q) (ab q)) sc'); exact Calls.quiet_of (eq_any sa' sa (up (im q) (ab q)) sc' sc L L (sg q) _ (by omega) (by exact Dq.sigs) (by exact HrS) HnS.out)) | (go_at_call_of 8 (Value.slice aa' (up (jm q) (pb q)) ac'); exact Calls.quiet_of (eq_any aa' aa (up (jm q) (pb q)) ac' ac L L (ap q) _ (by omega) (by exact Dq.apps) (by exact HrA) HnA.out)))
                      go_wp2
                      go_roundw
                      case rel => exact ⟨q + 1, by omega, by go_num, m4 + nq, by rw [← HXq.out, World.drewN_drewN]⟩
                      case measure => simp [intOf]; omega
                · rw [hnl] at i0
                  have cW := EN.1 hnl
                  go_wp2
                  go_roundw
                  case rel => exact ⟨q + 1, by omega, by go_num, m4, rfl⟩
                  case measure => simp [intOf]; omega
              · go_wp2
                go_ret
                exact ⟨rfl, below_drewN hbwX2 _⟩
end Go.Proofs.Ybulkfodk
