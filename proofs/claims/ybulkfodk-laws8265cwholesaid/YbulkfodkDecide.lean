import Derived.Test.YbulkfodkEngine
import Derived.Deep.RegionHeld3
namespace Go.Proofs.Ybulkfodk
open Go.RowKit
set_option maxRecDepth 100000 in
set_option maxHeartbeats 1000000 in
theorem decide_noauth (L Eb Cb M WB n : Nat) (y : ByteArray) (id : Int) (ra : Option Addr) (rn rc : Nat) (rs : Nat → ByteArray) (w : World) (hrn : (rn : Int) ≤ 9223372036854775806) (E : Eng w L Eb Cb M WB n y id ra rn rc rs)
    (hh : hasB rs rn ⟨#[103, 117, 97, 114, 100, 105, 97, 110]⟩ = false) :
    Calls Yba.prog 7 #[.pointer (some ⟨Cb, 0, none⟩), .pointer (some ⟨Eb, 0, none⟩), .agg #[.int .u64 0, .int .i64 0, .pointer none]] w fun e w' => Refused w ⟨#[110, 111, 116, 95, 97, 117, 116, 104, 111, 114, 105, 122, 101, 100]⟩ e w' := by
  have hb0 : Below w.heap.size w (w.alloc (.cells #[.int .u64 0, .int .i64 0, .pointer none] 36)) := (Below.refl _ _).alloc (Nat.le_refl _) _
  have E1 := E.keep hb0
  have by0 := E1.by0
  clear E
  go_enter Yba.func7, Yba.ntmps7
  go_wp2_with fail
  refine (hasRole_any Eb M L y _ ra rn rc rs _ hrn E1.c17 E1.map E1.row).mono ?_
  rintro e w' ⟨rfl, rfl⟩
  go_wp2_with fail
  refine (refuse_any _ _).mono ?_
  rintro e w' ⟨rfl, rfl⟩
  go_wp2
  go_ret2
  exact ⟨_, rfl, by simp, by simp, hb0.alloc (by simp) _⟩

set_option maxRecDepth 100000 in
set_option maxHeartbeats 1000000 in
theorem decide_out (L Eb Cb M WB n : Nat) (y : ByteArray) (id : Int) (ra : Option Addr) (rn rc : Nat) (rs : Nat → ByteArray) (w : World) (hrn : (rn : Int) ≤ 9223372036854775806) (hn : (n : Int) ≤ 9223372036854775806) (E : Eng w L Eb Cb M WB n y id ra rn rc rs)
    (hh : hasB rs rn ⟨#[103, 117, 97, 114, 100, 105, 97, 110]⟩ = true) (ho : id < 1 ∨ (n : Int) < id) :
    Calls Yba.prog 7 #[.pointer (some ⟨Cb, 0, none⟩), .pointer (some ⟨Eb, 0, none⟩), .agg #[.int .u64 0, .int .i64 0, .pointer none]] w fun e w' => Refused w ⟨#[117, 110, 107, 110, 111, 119, 110, 95, 119, 105, 116, 104, 100, 114, 97, 119, 97, 108]⟩ e w' := by
  have hb0 : Below w.heap.size w (w.alloc (.cells #[.int .u64 0, .int .i64 0, .pointer none] 36)) := (Below.refl _ _).alloc (Nat.le_refl _) _
  have E1 := E.keep hb0
  have by0 := E1.by0
  have id0 := E1.id0
  clear E
  go_enter Yba.func7, Yba.ntmps7
  go_wp2_with fail
  refine (hasRole_any Eb M L y _ ra rn rc rs _ hrn E1.c17 E1.map E1.row).mono ?_
  rintro e w' ⟨rfl, rfl⟩
  go_wp2_with fail
  refine (withdrawal_out Eb WB n id _ hn E1.c25 ho).mono ?_
  rintro e w' ⟨rfl, rfl⟩
  clear ho
  go_wp2_with fail
  refine (refuse_any _ _).mono ?_
  rintro e w' ⟨rfl, rfl⟩
  go_wp2
  go_ret2
  exact ⟨_, rfl, by simp, by simp, hb0.alloc (by simp) _⟩

set_option maxRecDepth 100000 in
set_option maxHeartbeats 1000000 in
theorem decide_nil (L Eb Cb M WB n : Nat) (y : ByteArray) (k : Nat) (ra : Option Addr) (rn rc : Nat) (rs : Nat → ByteArray) (w : World) (hrn : (rn : Int) ≤ 9223372036854775806) (hn : (n : Int) ≤ 9223372036854775806) (E : Eng w L Eb Cb M WB n y ((k : Int) + 1) ra rn rc rs)
    (hh : hasB rs rn ⟨#[103, 117, 97, 114, 100, 105, 97, 110]⟩ = true) (hk : k < n) (hv : w.cell? ⟨WB, k, none⟩ = some (.pointer none)) :
    Calls Yba.prog 7 #[.pointer (some ⟨Cb, 0, none⟩), .pointer (some ⟨Eb, 0, none⟩), .agg #[.int .u64 0, .int .i64 0, .pointer none]] w fun e w' => Refused w ⟨#[117, 110, 107, 110, 111, 119, 110, 95, 119, 105, 116, 104, 100, 114, 97, 119, 97, 108]⟩ e w' := by
  have hb0 : Below w.heap.size w (w.alloc (.cells #[.int .u64 0, .int .i64 0, .pointer none] 36)) := (Below.refl _ _).alloc (Nat.le_refl _) _
  have E1 := E.keep hb0
  have by0 := E1.by0
  have id0 := E1.id0
  have hv1 := (hb0.cell (p := ⟨WB, k, none⟩) E.lw).trans hv
  clear E
  go_enter Yba.func7, Yba.ntmps7
  go_wp2_with fail
  refine (hasRole_any Eb M L y _ ra rn rc rs _ hrn E1.c17 E1.map E1.row).mono ?_
  rintro e w' ⟨rfl, rfl⟩
  go_wp2_with fail
  refine (withdrawal_in Eb WB n k none _ hn E1.c25 hk hv1).mono ?_
  rintro e w' ⟨rfl, rfl⟩
  go_wp2_with fail
  refine (refuse_any _ _).mono ?_
  rintro e w' ⟨rfl, rfl⟩
  go_wp2
  go_ret2
  exact ⟨_, rfl, by simp, by simp, hb0.alloc (by simp) _⟩

set_option maxRecDepth 100000 in
set_option maxHeartbeats 1000000 in
theorem decide_nosign (L Eb Cb M WB n : Nat) (y : ByteArray) (k : Nat) (ra : Option Addr) (rn rc : Nat) (rs : Nat → ByteArray) (w : World) (hrn : (rn : Int) ≤ 9223372036854775806) (hn : (n : Int) ≤ 9223372036854775806) (E : Eng w L Eb Cb M WB n y ((k : Int) + 1) ra rn rc rs)
    (hh : hasB rs rn ⟨#[103, 117, 97, 114, 100, 105, 97, 110]⟩ = true) (hk : k < n) (Wk : Nat) (sa : Option Addr) (sn sc : Nat) (aa : Option Addr) (an ac : Nat) (sg ap : Nat → ByteArray) (en : ByteArray) (hsn : (sn : Int) ≤ 9223372036854775806) (_han : (an : Int) ≤ 9223372036854775805) (hv : w.cell? ⟨WB, k, none⟩ = some (.pointer (some ⟨Wk, 0, none⟩))) (D : Wdr w L Wk sa sn sc aa an ac sg ap en) (hs : hasB sg sn y = false) :
    Calls Yba.prog 7 #[.pointer (some ⟨Cb, 0, none⟩), .pointer (some ⟨Eb, 0, none⟩), .agg #[.int .u64 0, .int .i64 0, .pointer none]] w fun e w' => Refused w ⟨#[110, 111, 116, 95, 97, 95, 115, 105, 103, 110, 101, 114]⟩ e w' := by
  have hb0 : Below w.heap.size w (w.alloc (.cells #[.int .u64 0, .int .i64 0, .pointer none] 36)) := (Below.refl _ _).alloc (Nat.le_refl _) _
  have E1 := E.keep hb0
  have by0 := E1.by0
  have id0 := E1.id0
  have hv1 := (hb0.cell (p := ⟨WB, k, none⟩) E.lw).trans hv
  have D1 := D.keep (Kept.of_below hb0)
  have c5 := D1.c5
  have c17 := D1.c17
  clear D
  clear E
  go_enter Yba.func7, Yba.ntmps7
  go_wp2_with fail
  refine (hasRole_any Eb M L y _ ra rn rc rs _ hrn E1.c17 E1.map E1.row).mono ?_
  rintro e w' ⟨rfl, rfl⟩
  go_wp2_with fail
  refine (withdrawal_in Eb WB n k (some ⟨Wk, 0, none⟩) _ hn E1.c25 hk hv1).mono ?_
  rintro e w' ⟨rfl, rfl⟩
  go_wp2_with fail
  go_quiet ((go_at_call 12; exact Calls.quiet_of_same (contains_any sa sn sc L sg y _ hsn (D1.sigs.keep (Kept.of_below (below_drewN (Below.refl _ _) _))))))
  go_wp2_with fail
  refine (refuse_any _ _).mono ?_
  rintro e w' ⟨rfl, rfl⟩
  go_wp2
  go_ret2
  exact ⟨_, rfl, by go_simp, by simp, (below_drewN hb0 _).alloc (by simp) _⟩

set_option maxRecDepth 100000 in
set_option maxHeartbeats 1000000 in
theorem decide_exec (L Eb Cb M WB n : Nat) (y : ByteArray) (k : Nat) (ra : Option Addr) (rn rc : Nat) (rs : Nat → ByteArray) (w : World) (hrn : (rn : Int) ≤ 9223372036854775806) (hn : (n : Int) ≤ 9223372036854775806) (E : Eng w L Eb Cb M WB n y ((k : Int) + 1) ra rn rc rs)
    (hh : hasB rs rn ⟨#[103, 117, 97, 114, 100, 105, 97, 110]⟩ = true) (hk : k < n) (Wk : Nat) (sa : Option Addr) (sn sc : Nat) (aa : Option Addr) (an ac : Nat) (sg ap : Nat → ByteArray) (en : ByteArray) (hsn : (sn : Int) ≤ 9223372036854775806) (_han : (an : Int) ≤ 9223372036854775805) (hv : w.cell? ⟨WB, k, none⟩ = some (.pointer (some ⟨Wk, 0, none⟩))) (D : Wdr w L Wk sa sn sc aa an ac sg ap en) (hs : hasB sg sn y = true) (hx : (en.toList == [101, 120, 101, 99, 117, 116, 101, 100]) = true) :
    Calls Yba.prog 7 #[.pointer (some ⟨Cb, 0, none⟩), .pointer (some ⟨Eb, 0, none⟩), .agg #[.int .u64 0, .int .i64 0, .pointer none]] w fun e w' => Refused w ⟨#[97, 108, 114, 101, 97, 100, 121, 95, 101, 120, 101, 99, 117, 116, 101, 100]⟩ e w' := by
  have hb0 : Below w.heap.size w (w.alloc (.cells #[.int .u64 0, .int .i64 0, .pointer none] 36)) := (Below.refl _ _).alloc (Nat.le_refl _) _
  have E1 := E.keep hb0
  have by0 := E1.by0
  have id0 := E1.id0
  have hv1 := (hb0.cell (p := ⟨WB, k, none⟩) E.lw).trans hv
  have D1 := D.keep (Kept.of_below hb0)
  have c5 := D1.c5
  have c17 := D1.c17
  clear D
  clear E
  go_enter Yba.func7, Yba.ntmps7
  go_wp2_with fail
  refine (hasRole_any Eb M L y _ ra rn rc rs _ hrn E1.c17 E1.map E1.row).mono ?_
  rintro e w' ⟨rfl, rfl⟩
  go_wp2_with fail
  refine (withdrawal_in Eb WB n k (some ⟨Wk, 0, none⟩) _ hn E1.c25 hk hv1).mono ?_
  rintro e w' ⟨rfl, rfl⟩
  go_wp2_with fail
  go_quiet ((go_at_call 12; exact Calls.quiet_of_same (contains_any sa sn sc L sg y _ hsn (D1.sigs.keep (Kept.of_below (below_drewN (Below.refl _ _) _))))))
  go_wp2_with fail
  refine (open_exec Wk en _ (by exact D1.c15) hx).mono ?_
  rintro e w' ⟨rfl, rfl⟩
  go_wp2
  go_ret2
  exact ⟨_, rfl, by go_simp, by simp, (below_drewN hb0 _).alloc (by simp) _⟩

set_option maxRecDepth 100000 in
set_option maxHeartbeats 1000000 in
theorem decide_canc (L Eb Cb M WB n : Nat) (y : ByteArray) (k : Nat) (ra : Option Addr) (rn rc : Nat) (rs : Nat → ByteArray) (w : World) (hrn : (rn : Int) ≤ 9223372036854775806) (hn : (n : Int) ≤ 9223372036854775806) (E : Eng w L Eb Cb M WB n y ((k : Int) + 1) ra rn rc rs)
    (hh : hasB rs rn ⟨#[103, 117, 97, 114, 100, 105, 97, 110]⟩ = true) (hk : k < n) (Wk : Nat) (sa : Option Addr) (sn sc : Nat) (aa : Option Addr) (an ac : Nat) (sg ap : Nat → ByteArray) (en : ByteArray) (hsn : (sn : Int) ≤ 9223372036854775806) (_han : (an : Int) ≤ 9223372036854775805) (hv : w.cell? ⟨WB, k, none⟩ = some (.pointer (some ⟨Wk, 0, none⟩))) (D : Wdr w L Wk sa sn sc aa an ac sg ap en) (hs : hasB sg sn y = true) (hx : (en.toList == [101, 120, 101, 99, 117, 116, 101, 100]) = false) (hc : (en.toList == [99, 97, 110, 99, 101, 108, 108, 101, 100]) = true) :
    Calls Yba.prog 7 #[.pointer (some ⟨Cb, 0, none⟩), .pointer (some ⟨Eb, 0, none⟩), .agg #[.int .u64 0, .int .i64 0, .pointer none]] w fun e w' => Refused w ⟨#[99, 97, 110, 99, 101, 108, 108, 101, 100]⟩ e w' := by
  have hb0 : Below w.heap.size w (w.alloc (.cells #[.int .u64 0, .int .i64 0, .pointer none] 36)) := (Below.refl _ _).alloc (Nat.le_refl _) _
  have E1 := E.keep hb0
  have by0 := E1.by0
  have id0 := E1.id0
  have hv1 := (hb0.cell (p := ⟨WB, k, none⟩) E.lw).trans hv
  have D1 := D.keep (Kept.of_below hb0)
  have c5 := D1.c5
  have c17 := D1.c17
  clear D
  clear E
  go_enter Yba.func7, Yba.ntmps7
  go_wp2_with fail
  refine (hasRole_any Eb M L y _ ra rn rc rs _ hrn E1.c17 E1.map E1.row).mono ?_
  rintro e w' ⟨rfl, rfl⟩
  go_wp2_with fail
  refine (withdrawal_in Eb WB n k (some ⟨Wk, 0, none⟩) _ hn E1.c25 hk hv1).mono ?_
  rintro e w' ⟨rfl, rfl⟩
  go_wp2_with fail
  go_quiet ((go_at_call 12; exact Calls.quiet_of_same (contains_any sa sn sc L sg y _ hsn (D1.sigs.keep (Kept.of_below (below_drewN (Below.refl _ _) _))))))
  go_wp2_with fail
  refine (open_canc Wk en _ (by exact D1.c15) hx hc).mono ?_
  rintro e w' ⟨rfl, rfl⟩
  go_wp2
  go_ret2
  exact ⟨_, rfl, by go_simp, by simp, (below_drewN hb0 _).alloc (by simp) _⟩

set_option maxRecDepth 100000 in
set_option maxHeartbeats 1000000 in
theorem decide_already (L Eb Cb M WB n : Nat) (y : ByteArray) (k : Nat) (ra : Option Addr) (rn rc : Nat) (rs : Nat → ByteArray) (w : World) (hrn : (rn : Int) ≤ 9223372036854775806) (hn : (n : Int) ≤ 9223372036854775806) (E : Eng w L Eb Cb M WB n y ((k : Int) + 1) ra rn rc rs)
    (hh : hasB rs rn ⟨#[103, 117, 97, 114, 100, 105, 97, 110]⟩ = true) (hk : k < n) (Wk : Nat) (sa : Option Addr) (sn sc : Nat) (aa : Option Addr) (an ac : Nat) (sg ap : Nat → ByteArray) (en : ByteArray) (hsn : (sn : Int) ≤ 9223372036854775806) (_han : (an : Int) ≤ 9223372036854775805) (hv : w.cell? ⟨WB, k, none⟩ = some (.pointer (some ⟨Wk, 0, none⟩))) (D : Wdr w L Wk sa sn sc aa an ac sg ap en) (hs : hasB sg sn y = true) (hx : (en.toList == [101, 120, 101, 99, 117, 116, 101, 100]) = false) (hc : (en.toList == [99, 97, 110, 99, 101, 108, 108, 101, 100]) = false) (ha : hasB ap an y = true) :
    Calls Yba.prog 7 #[.pointer (some ⟨Cb, 0, none⟩), .pointer (some ⟨Eb, 0, none⟩), .agg #[.int .u64 0, .int .i64 0, .pointer none]] w fun e w' => Refused w ⟨#[97, 108, 114, 101, 97, 100, 121, 95, 97, 112, 112, 114, 111, 118, 101, 100]⟩ e w' := by
  have hb0 : Below w.heap.size w (w.alloc (.cells #[.int .u64 0, .int .i64 0, .pointer none] 36)) := (Below.refl _ _).alloc (Nat.le_refl _) _
  have E1 := E.keep hb0
  have by0 := E1.by0
  have id0 := E1.id0
  have hv1 := (hb0.cell (p := ⟨WB, k, none⟩) E.lw).trans hv
  have D1 := D.keep (Kept.of_below hb0)
  have c5 := D1.c5
  have c17 := D1.c17
  clear D
  clear E
  go_enter Yba.func7, Yba.ntmps7
  go_wp2_with fail
  refine (hasRole_any Eb M L y _ ra rn rc rs _ hrn E1.c17 E1.map E1.row).mono ?_
  rintro e w' ⟨rfl, rfl⟩
  go_wp2_with fail
  refine (withdrawal_in Eb WB n k (some ⟨Wk, 0, none⟩) _ hn E1.c25 hk hv1).mono ?_
  rintro e w' ⟨rfl, rfl⟩
  go_wp2_with fail
  go_quiet ((go_at_call 12; exact Calls.quiet_of_same (contains_any sa sn sc L sg y _ hsn (D1.sigs.keep (Kept.of_below (below_drewN (Below.refl _ _) _))))))
  go_wp2_with fail
  have D2 : Wdr ((w.alloc (.cells #[.int .u64 0, .int .i64 0, .pointer none] 36)).drewN nq) L Wk sa sn sc aa an ac sg ap en := D1.keep (Kept.of_below (below_drewN (Below.refl _ _) nq))
  have by2 : ((w.alloc (.cells #[.int .u64 0, .int .i64 0, .pointer none] 36)).drewN nq).cell? ⟨Cb, 0, none⟩ = some (.string y) := by0
  have id2 : ((w.alloc (.cells #[.int .u64 0, .int .i64 0, .pointer none] 36)).drewN nq).cell? ⟨Cb, 1, none⟩ = some (.int .i64 ((k : Int) + 1)) := id0
  have lc2 : Cb < ((w.alloc (.cells #[.int .u64 0, .int .i64 0, .pointer none] 36)).drewN nq).heap.size := E1.lc
  have hb2 := below_drewN hb0 nq
  clear D1 E1 by0 id0 c5 c17 hv1 hv
  generalize (w.alloc (.cells #[.int .u64 0, .int .i64 0, .pointer none] 36)).drewN nq = W2 at D2 by2 id2 lc2 hb2 ⊢
  have c17 := D2.c17
  refine (open_open Wk en _ (by exact D2.c15) hx hc).mono ?_
  rintro e w' ⟨rfl, hw⟩
  rw [hw]
  clear hw
  go_wp2_with fail
  go_quiet ((go_at_call 12; exact Calls.quiet_of_same (contains_any aa an ac L ap y _ (by omega) (by exact D2.apps))))
  rw [ha]
  go_wp2_with fail
  refine (refuse_any _ _).mono ?_
  rintro e w' ⟨rfl, rfl⟩
  go_wp2
  go_ret2
  exact ⟨_, rfl, by exact World.cell?_alloc_new (W2.drewN nq) _ _ _, by simp, (below_drewN hb2 _).alloc (Nat.le_trans (below_drewN hb2 _).size (Nat.le_refl _)) _⟩

set_option maxRecDepth 100000 in
set_option maxHeartbeats 1000000 in
theorem decide_approve (L Eb Cb M WB n : Nat) (y : ByteArray) (k : Nat) (ra : Option Addr) (rn rc : Nat) (rs : Nat → ByteArray) (w : World) (hrn : (rn : Int) ≤ 9223372036854775806) (hn : (n : Int) ≤ 9223372036854775806) (E : Eng w L Eb Cb M WB n y ((k : Int) + 1) ra rn rc rs)
    (hh : hasB rs rn ⟨#[103, 117, 97, 114, 100, 105, 97, 110]⟩ = true) (hk : k < n) (Wk : Nat) (sa : Option Addr) (sn sc : Nat) (aa : Option Addr) (an ac : Nat) (sg ap : Nat → ByteArray) (en : ByteArray) (hsn : (sn : Int) ≤ 9223372036854775806) (_han : (an : Int) ≤ 9223372036854775805) (hv : w.cell? ⟨WB, k, none⟩ = some (.pointer (some ⟨Wk, 0, none⟩))) (D : Wdr w L Wk sa sn sc aa an ac sg ap en) (hs : hasB sg sn y = true) (hx : (en.toList == [101, 120, 101, 99, 117, 116, 101, 100]) = false) (hc : (en.toList == [99, 97, 110, 99, 101, 108, 108, 101, 100]) = false) (ha : hasB ap an y = false) :
    Calls Yba.prog 7 #[.pointer (some ⟨Cb, 0, none⟩), .pointer (some ⟨Eb, 0, none⟩), .agg #[.int .u64 0, .int .i64 0, .pointer none]] w fun e w' => Approved w y ((k : Int) + 1) an e w' := by
  have hb0 : Below w.heap.size w (w.alloc (.cells #[.int .u64 0, .int .i64 0, .pointer none] 36)) := (Below.refl _ _).alloc (Nat.le_refl _) _
  have E1 := E.keep hb0
  have by0 := E1.by0
  have id0 := E1.id0
  have hv1 := (hb0.cell (p := ⟨WB, k, none⟩) E.lw).trans hv
  have D1 := D.keep (Kept.of_below hb0)
  have c5 := D1.c5
  have c17 := D1.c17
  clear D
  clear E
  go_enter Yba.func7, Yba.ntmps7
  go_wp2_with fail
  refine (hasRole_any Eb M L y _ ra rn rc rs _ hrn E1.c17 E1.map E1.row).mono ?_
  rintro e w' ⟨rfl, rfl⟩
  go_wp2_with fail
  refine (withdrawal_in Eb WB n k (some ⟨Wk, 0, none⟩) _ hn E1.c25 hk hv1).mono ?_
  rintro e w' ⟨rfl, rfl⟩
  go_wp2_with fail
  go_quiet ((go_at_call 12; exact Calls.quiet_of_same (contains_any sa sn sc L sg y _ hsn (D1.sigs.keep (Kept.of_below (below_drewN (Below.refl _ _) _))))))
  go_wp2_with fail
  have D2 : Wdr ((w.alloc (.cells #[.int .u64 0, .int .i64 0, .pointer none] 36)).drewN nq) L Wk sa sn sc aa an ac sg ap en := D1.keep (Kept.of_below (below_drewN (Below.refl _ _) nq))
  have by2 : ((w.alloc (.cells #[.int .u64 0, .int .i64 0, .pointer none] 36)).drewN nq).cell? ⟨Cb, 0, none⟩ = some (.string y) := by0
  have id2 : ((w.alloc (.cells #[.int .u64 0, .int .i64 0, .pointer none] 36)).drewN nq).cell? ⟨Cb, 1, none⟩ = some (.int .i64 ((k : Int) + 1)) := id0
  have lc2 : Cb < ((w.alloc (.cells #[.int .u64 0, .int .i64 0, .pointer none] 36)).drewN nq).heap.size := E1.lc
  have hb2 := below_drewN hb0 nq
  clear D1 E1 by0 id0 c5 c17 hv1 hv
  generalize (w.alloc (.cells #[.int .u64 0, .int .i64 0, .pointer none] 36)).drewN nq = W2 at D2 by2 id2 lc2 hb2 ⊢
  have c17 := D2.c17
  refine (open_open Wk en _ (by exact D2.c15) hx hc).mono ?_
  rintro e w' ⟨rfl, hw⟩
  rw [hw]
  clear hw
  go_wp2_with fail
  go_quiet ((go_at_call 12; exact Calls.quiet_of_same (contains_any aa an ac L ap y _ (by omega) (by exact D2.apps))))
  rw [ha]
  go_wp2_with fail
  have hwr : IntKind.i64.wrap ((an : Int) + 1) = (an : Int) + 1 := by rw [IntKind.wrap_i64]; omega
  generalize hW3 : W2.drewN nq = W3
  have by3 : W3.cell? ⟨Cb, 0, none⟩ = some (.string y) := by rw [← hW3]; exact by2
  have id3 : W3.cell? ⟨Cb, 1, none⟩ = some (.int .i64 ((k : Int) + 1)) := by rw [← hW3]; exact id2
  have c3 : W3.cell? ⟨Wk, 17, none⟩ = some (.slice aa an ac) := by rw [← hW3]; exact c17
  have hb3 : Below w.heap.size w W3 := by rw [← hW3]; exact below_drewN hb2 _
  clear hW3 by2 id2 c17 D2 hb2 lc2
  go_region_held3 (fun w' => w'.cell? ⟨Cb, 0, none⟩ = some (.string y) ∧ w'.cell? ⟨Cb, 1, none⟩ = some (.int .i64 ((k : Int) + 1)) ∧ w'.cell? ⟨Wk, 17, none⟩ = some (.slice aa an ac)) (go_keep) (fail)
  go_wp2
  go_ret2
  exact ⟨W3.heap.size, W3.heap.size + 1, rfl, by go_simp, by go_simp, by go_simp, by go_simp, ((hb3.drew).alloc hb3.size _).alloc (by have := hb3.size; simp; omega) _⟩
end Go.Proofs.Ybulkfodk
