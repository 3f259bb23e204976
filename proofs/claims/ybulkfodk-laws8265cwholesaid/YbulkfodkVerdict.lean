import Derived.Test.YbulkfodkDecide
import Derived.Test.YbulkfodkHold
namespace Go.Proofs.Ybulkfodk
open Go.RowKit

theorem Wdr.low {w : World} {L Wk : Nat} {sa : Option Addr} {sn sc : Nat} {aa : Option Addr} {an ac : Nat} {sg ap : Nat → ByteArray} {en : ByteArray} (h : Wdr w L Wk sa sn sc aa an ac sg ap en) : Wdr w 0 Wk sa sn sc aa an ac sg ap en :=
  ⟨Nat.zero_le _, h.lt, h.c5, h.c15, h.c16, h.c17, h.sigs.low (Nat.zero_le _), h.apps.low (Nat.zero_le _)⟩

/-- The entries, by the cells that hold them. -/
theorem Laid.entry {w0 x : World} {n SB AB EB WB L : Nat} {nl : Nat → Bool} {sn an : Nat → Nat} {sg ap : Nat → Nat → ByteArray} {en : Nat → ByteArray} (h : Laid w0 x n SB AB EB WB L n nl sn an sg ap en) (i : Nat) (hi : i < n) :
    Entry x L (nl i) (x.cell? ⟨SB, i, none⟩) (x.cell? ⟨AB, i, none⟩) (x.cell? ⟨EB, i, none⟩) (x.cell? ⟨WB, i, none⟩) (sn i) (an i) (sg i) (ap i) (en i) := by
  obtain ⟨xs, as0, es, ws, hl, h0, _⟩ := h.rows
  rw [hl.oS.cellAt i (by omega), hl.oA.cellAt i (by omega), hl.oE.cellAt i (by omega), hl.oW.cellAt i (by omega)]
  exact h0 i hi

/-- The two assertions, and 'len' of the map. -/
theorem ta72 (a : Option Addr) (w : World) : (Instr.typeAssert (.iface 72 (.pointer a)) 69 72 true).run Yba.prog w = .ok (.tuple #[.pointer a, .bool true]) w := by kernel_rfl
theorem ta76 (a : Option Addr) (w : World) : (Instr.typeAssert (.iface 76 (.pointer a)) 79 76 true).run Yba.prog w = .ok (.tuple #[.pointer a, .bool true]) w := by kernel_rfl
theorem len_one {w : World} {M : Nat} {x : MapEntry} (h : w.heap[M]? = some (.map #[x] 1)) (ty : TypeId) : (Builtin.len_ #[44] ty #[.map (some M)]).run Yba.prog w = .ok (.int .i64 1) w := by
  simp [Builtin.len_, run_underlying Yba.underlying44, MapKept.run_getObj_map h, goInt, Result.andThen]
theorem no_text : (⟨#[]⟩ : ByteArray).toList.isEmpty = true := by decide +kernel

/-- The eight ways: what the law's model wants (W, and N where it is an approval). -/
def Verdict (hr : Bool) (n : Nat) (id : Int) (nl sB aB : Nat → Bool) (en : Nat → ByteArray) (an : Nat → Nat) (W : ByteArray) (N : Int) : Prop :=
  (hr = false ∧ W = ⟨#[110, 111, 116, 95, 97, 117, 116, 104, 111, 114, 105, 122, 101, 100]⟩ ∧ N = 0) ∨
  (hr = true ∧ (id < 1 ∨ (n : Int) < id) ∧ W = ⟨#[117, 110, 107, 110, 111, 119, 110, 95, 119, 105, 116, 104, 100, 114, 97, 119, 97, 108]⟩ ∧ N = 0) ∨
  (hr = true ∧ ∃ k : Nat, k < n ∧ id = (k : Int) + 1 ∧
    ((nl k = true ∧ W = ⟨#[117, 110, 107, 110, 111, 119, 110, 95, 119, 105, 116, 104, 100, 114, 97, 119, 97, 108]⟩ ∧ N = 0) ∨
     (nl k = false ∧ sB k = false ∧ W = ⟨#[110, 111, 116, 95, 97, 95, 115, 105, 103, 110, 101, 114]⟩ ∧ N = 0) ∨
     (nl k = false ∧ sB k = true ∧ ((en k).toList == [101, 120, 101, 99, 117, 116, 101, 100]) = true ∧ W = ⟨#[97, 108, 114, 101, 97, 100, 121, 95, 101, 120, 101, 99, 117, 116, 101, 100]⟩ ∧ N = 0) ∨
     (nl k = false ∧ sB k = true ∧ ((en k).toList == [101, 120, 101, 99, 117, 116, 101, 100]) = false ∧ ((en k).toList == [99, 97, 110, 99, 101, 108, 108, 101, 100]) = true ∧ W = ⟨#[99, 97, 110, 99, 101, 108, 108, 101, 100]⟩ ∧ N = 0) ∨
     (nl k = false ∧ sB k = true ∧ ((en k).toList == [101, 120, 101, 99, 117, 116, 101, 100]) = false ∧ ((en k).toList == [99, 97, 110, 99, 101, 108, 108, 101, 100]) = false ∧ aB k = true ∧ W = ⟨#[97, 108, 114, 101, 97, 100, 121, 95, 97, 112, 112, 114, 111, 118, 101, 100]⟩ ∧ N = 0) ∨
     (nl k = false ∧ sB k = true ∧ ((en k).toList == [101, 120, 101, 99, 117, 116, 101, 100]) = false ∧ ((en k).toList == [99, 97, 110, 99, 101, 108, 108, 101, 100]) = false ∧ aB k = false ∧ W = ⟨#[]⟩ ∧ N = (an k : Int) + 1)))

theorem verdict (hr : Bool) (n : Nat) (id : Int) (nl sB aB : Nat → Bool) (en : Nat → ByteArray) (an : Nat → Nat) : ∃ W N, Verdict hr n id nl sB aB en an W N := by
  cases h1 : hr
  · exact ⟨_, _, Or.inl ⟨rfl, rfl, rfl⟩⟩
  · by_cases h2 : id < 1 ∨ (n : Int) < id
    · exact ⟨_, _, Or.inr (Or.inl ⟨rfl, h2, rfl, rfl⟩)⟩
    · have hk : (id - 1).toNat < n := by omega
      have he : id = ((id - 1).toNat : Int) + 1 := by omega
      generalize (id - 1).toNat = k at hk he
      cases h3 : nl k
      · cases h4 : sB k
        · exact ⟨_, _, Or.inr (Or.inr ⟨rfl, k, hk, he, Or.inr (Or.inl ⟨h3, h4, rfl, rfl⟩)⟩)⟩
        · cases h5 : ((en k).toList == [101, 120, 101, 99, 117, 116, 101, 100])
          · cases h6 : ((en k).toList == [99, 97, 110, 99, 101, 108, 108, 101, 100])
            · cases h7 : aB k
              · exact ⟨_, _, Or.inr (Or.inr ⟨rfl, k, hk, he, Or.inr (Or.inr (Or.inr (Or.inr (Or.inr ⟨h3, h4, h5, h6, h7, rfl, rfl⟩))))⟩)⟩
              · exact ⟨_, _, Or.inr (Or.inr ⟨rfl, k, hk, he, Or.inr (Or.inr (Or.inr (Or.inr (Or.inl ⟨h3, h4, h5, h6, h7, rfl, rfl⟩))))⟩)⟩
            · exact ⟨_, _, Or.inr (Or.inr ⟨rfl, k, hk, he, Or.inr (Or.inr (Or.inr (Or.inl ⟨h3, h4, h5, h6, rfl, rfl⟩)))⟩)⟩
          · exact ⟨_, _, Or.inr (Or.inr ⟨rfl, k, hk, he, Or.inr (Or.inr (Or.inl ⟨h3, h4, h5, rfl, rfl⟩))⟩)⟩
      · exact ⟨_, _, Or.inr (Or.inr ⟨rfl, k, hk, he, Or.inl ⟨h3, rfl, rfl⟩⟩)⟩

/-- How 'decide' ends, by what the model wants. -/
def Outcome (w : World) (y : ByteArray) (id : Int) (W : ByteArray) (N : Int) (e : Ending) (w' : World) : Prop :=
  (W.toList.isEmpty = false ∧ Refused w W e w') ∨ (W = ⟨#[]⟩ ∧ ∃ m : Nat, N = (m : Int) + 1 ∧ Approved w y id m e w')

theorem decide_all (Eb Cb M SB AB EB WB L n : Nat) (y : ByteArray) (id : Int) (ra : Option Addr) (rn rc : Nat) (rs : Nat → ByteArray) (w : World) (nl : Nat → Bool) (sn an : Nat → Nat) (sg ap : Nat → Nat → ByteArray) (en : Nat → ByteArray) (W : ByteArray) (N : Int)
    (hrn : (rn : Int) ≤ 9223372036854775806) (hn : (n : Int) ≤ 9223372036854775806) (hsn : ∀ i, i < n → (sn i : Int) ≤ 9223372036854775806) (han : ∀ i, i < n → (an i : Int) ≤ 9223372036854775805)
    (E : Eng w 0 Eb Cb M WB n y id ra rn rc rs)
    (hE : ∀ i, i < n → Entry w L (nl i) (w.cell? ⟨SB, i, none⟩) (w.cell? ⟨AB, i, none⟩) (w.cell? ⟨EB, i, none⟩) (w.cell? ⟨WB, i, none⟩) (sn i) (an i) (sg i) (ap i) (en i))
    (hV : Verdict (hasB rs rn ⟨#[103, 117, 97, 114, 100, 105, 97, 110]⟩) n id nl (fun i => hasB (sg i) (sn i) y) (fun i => hasB (ap i) (an i) y) en an W N) :
    Calls Yba.prog 7 #[.pointer (some ⟨Cb, 0, none⟩), .pointer (some ⟨Eb, 0, none⟩), .agg #[.int .u64 0, .int .i64 0, .pointer none]] w fun e w' => Outcome w y id W N e w' := by
  rcases hV with ⟨h1, rfl, rfl⟩ | ⟨h1, h2, rfl, rfl⟩ | ⟨h1, k, hk, rfl, h⟩
  · exact (decide_noauth 0 Eb Cb M WB n y id ra rn rc rs w hrn E h1).mono fun e w' h => Or.inl ⟨by decide +kernel, h⟩
  · exact (decide_out 0 Eb Cb M WB n y id ra rn rc rs w hrn hn E h1 h2).mono fun e w' h => Or.inl ⟨by decide +kernel, h⟩
  · rcases h with ⟨h3, rfl, rfl⟩ | ⟨h3, h⟩ | ⟨h3, h⟩ | ⟨h3, h⟩ | ⟨h3, h⟩ | ⟨h3, h⟩
    · exact (decide_nil 0 Eb Cb M WB n y k ra rn rc rs w hrn hn E h1 hk ((hE k hk).1 h3)).mono fun e w' h => Or.inl ⟨by decide +kernel, h⟩
    all_goals obtain ⟨sa, sc, aa, ac, Wk, sa', sc', aa', ac', _, _, _, _, _, hv, D, _, _⟩ := (hE k hk).2 h3
    · obtain ⟨h4, rfl, rfl⟩ := h
      exact (decide_nosign 0 Eb Cb M WB n y k ra rn rc rs w hrn hn E h1 hk Wk sa' (sn k) sc' aa' (an k) ac' (sg k) (ap k) (en k) (hsn k hk) (han k hk) hv D.low h4).mono fun e w' h => Or.inl ⟨by decide +kernel, h⟩
    · obtain ⟨h4, h5, rfl, rfl⟩ := h
      exact (decide_exec 0 Eb Cb M WB n y k ra rn rc rs w hrn hn E h1 hk Wk sa' (sn k) sc' aa' (an k) ac' (sg k) (ap k) (en k) (hsn k hk) (han k hk) hv D.low h4 h5).mono fun e w' h => Or.inl ⟨by decide +kernel, h⟩
    · obtain ⟨h4, h5, h6, rfl, rfl⟩ := h
      exact (decide_canc 0 Eb Cb M WB n y k ra rn rc rs w hrn hn E h1 hk Wk sa' (sn k) sc' aa' (an k) ac' (sg k) (ap k) (en k) (hsn k hk) (han k hk) hv D.low h4 h5 h6).mono fun e w' h => Or.inl ⟨by decide +kernel, h⟩
    · obtain ⟨h4, h5, h6, h7, rfl, rfl⟩ := h
      exact (decide_already 0 Eb Cb M WB n y k ra rn rc rs w hrn hn E h1 hk Wk sa' (sn k) sc' aa' (an k) ac' (sg k) (ap k) (en k) (hsn k hk) (han k hk) hv D.low h4 h5 h6 h7).mono fun e w' h => Or.inl ⟨by decide +kernel, h⟩
    · obtain ⟨h4, h5, h6, h7, rfl, rfl⟩ := h
      exact (decide_approve 0 Eb Cb M WB n y k ra rn rc rs w hrn hn E h1 hk Wk sa' (sn k) sc' aa' (an k) ac' (sg k) (ap k) (en k) (hsn k hk) (han k hk) hv D.low h4 h5 h6 h7).mono fun e w' h => Or.inr ⟨rfl, _, rfl, h⟩
end Go.Proofs.Ybulkfodk
