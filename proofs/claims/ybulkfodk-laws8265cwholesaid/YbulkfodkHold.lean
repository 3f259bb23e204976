import Derived.Test.YbulkfodkParts
namespace Go.Proofs.Ybulkfodk
open Go.RowKit

/-- The law's four rows (signers, approvals, statuses, withdrawals), in a world x that has come from wr (a round's head) and from w0 (the call's begin): what they hold; that nothing else from block L on, and nothing below the call's own memory, has turned. -/
structure Hold (w0 wr x : World) (n SB AB EB WB L : Nat) (xs as es ws : List Value) : Prop where
  oS : x.ownsRow w0.heap.size 22 1 (.slice (some ⟨SB, 0, none⟩) n n) n xs
  oA : x.ownsRow w0.heap.size 22 1 (.slice (some ⟨AB, 0, none⟩) n n) n as
  oE : x.ownsRow w0.heap.size 9 1 (.slice (some ⟨EB, 0, none⟩) n n) n es
  oW : x.ownsRow w0.heap.size 30 1 (.slice (some ⟨WB, 0, none⟩) n n) n ws
  kp : Kept L wr x
  bl : Below w0.heap.size w0 x
  r1 : w0.heap.size ≤ SB
  r2 : SB < AB
  r3 : AB < EB
  r4 : EB < WB
  r5 : WB < L
  lz : L ≤ wr.heap.size

section
variable {w0 wr x : World} {n SB AB EB WB L : Nat} {xs as es ws : List Value}

theorem Hold.sizes (h : Hold w0 wr x n SB AB EB WB L xs as es ws) : L ≤ x.heap.size := Nat.le_trans h.lz h.kp.size

theorem Hold.below {x' : World} (h : Hold w0 wr x n SB AB EB WB L xs as es ws) (hb : Below x.heap.size x x') : Hold w0 wr x' n SB AB EB WB L xs as es ws := by
  have := h.r2; have := h.r3; have := h.r4; have := h.r5; have := h.sizes
  exact ⟨own_keep h.oS (hb.block _ (by omega)), own_keep h.oA (hb.block _ (by omega)), own_keep h.oE (hb.block _ (by omega)), own_keep h.oW (hb.block _ (by omega)), h.kp.trans (Kept.of_below hb), h.bl.trans (hb.mono h.bl.size), h.r1, h.r2, h.r3, h.r4, h.r5, h.lz⟩

theorem Hold.setS (h : Hold w0 wr x n SB AB EB WB L xs as es ws) (k : Nat) (u : Value) : Hold w0 wr (x.setCell ⟨SB, k, none⟩ u) n SB AB EB WB L (xs.set k u) as es ws := by
  have := h.r2; have := h.r3; have := h.r4; have := h.r5; have := h.r1
  exact ⟨(h.oS.stored k u).1, own_keep h.oA (Below.heap_setCell _ _ _ _ (by show AB ≠ SB; omega)), own_keep h.oE (Below.heap_setCell _ _ _ _ (by show EB ≠ SB; omega)), own_keep h.oW (Below.heap_setCell _ _ _ _ (by show WB ≠ SB; omega)),
    h.kp.setCell (Or.inl (by show SB < L; omega)) u, h.bl.setCell (by show w0.heap.size ≤ SB; omega) u, h.r1, h.r2, h.r3, h.r4, h.r5, h.lz⟩
theorem Hold.setA (h : Hold w0 wr x n SB AB EB WB L xs as es ws) (k : Nat) (u : Value) : Hold w0 wr (x.setCell ⟨AB, k, none⟩ u) n SB AB EB WB L xs (as.set k u) es ws := by
  have := h.r2; have := h.r3; have := h.r4; have := h.r5; have := h.r1
  exact ⟨own_keep h.oS (Below.heap_setCell _ _ _ _ (by show SB ≠ AB; omega)), (h.oA.stored k u).1, own_keep h.oE (Below.heap_setCell _ _ _ _ (by show EB ≠ AB; omega)), own_keep h.oW (Below.heap_setCell _ _ _ _ (by show WB ≠ AB; omega)),
    h.kp.setCell (Or.inl (by show AB < L; omega)) u, h.bl.setCell (by show w0.heap.size ≤ AB; omega) u, h.r1, h.r2, h.r3, h.r4, h.r5, h.lz⟩
theorem Hold.setE (h : Hold w0 wr x n SB AB EB WB L xs as es ws) (k : Nat) (u : Value) : Hold w0 wr (x.setCell ⟨EB, k, none⟩ u) n SB AB EB WB L xs as (es.set k u) ws := by
  have := h.r2; have := h.r3; have := h.r4; have := h.r5; have := h.r1
  exact ⟨own_keep h.oS (Below.heap_setCell _ _ _ _ (by show SB ≠ EB; omega)), own_keep h.oA (Below.heap_setCell _ _ _ _ (by show AB ≠ EB; omega)), (h.oE.stored k u).1, own_keep h.oW (Below.heap_setCell _ _ _ _ (by show WB ≠ EB; omega)),
    h.kp.setCell (Or.inl (by show EB < L; omega)) u, h.bl.setCell (by show w0.heap.size ≤ EB; omega) u, h.r1, h.r2, h.r3, h.r4, h.r5, h.lz⟩
theorem Hold.setW (h : Hold w0 wr x n SB AB EB WB L xs as es ws) (k : Nat) (u : Value) : Hold w0 wr (x.setCell ⟨WB, k, none⟩ u) n SB AB EB WB L xs as es (ws.set k u) := by
  have := h.r2; have := h.r3; have := h.r4; have := h.r5; have := h.r1
  exact ⟨own_keep h.oS (Below.heap_setCell _ _ _ _ (by show SB ≠ WB; omega)), own_keep h.oA (Below.heap_setCell _ _ _ _ (by show AB ≠ WB; omega)), own_keep h.oE (Below.heap_setCell _ _ _ _ (by show EB ≠ WB; omega)), (h.oW.stored k u).1,
    h.kp.setCell (Or.inl (by show WB < L; omega)) u, h.bl.setCell (by show w0.heap.size ≤ WB; omega) u, h.r1, h.r2, h.r3, h.r4, h.r5, h.lz⟩
/-- A store into a block that the round has made. -/
theorem Hold.setNew (h : Hold w0 wr x n SB AB EB WB L xs as es ws) {p : Addr} (hp : wr.heap.size ≤ p.block) (u : Value) : Hold w0 wr (x.setCell p u) n SB AB EB WB L xs as es ws := by
  have := h.r2; have := h.r3; have := h.r4; have := h.r5; have := h.r1; have := h.lz
  exact ⟨own_keep h.oS (Below.heap_setCell _ _ _ _ (by omega)), own_keep h.oA (Below.heap_setCell _ _ _ _ (by omega)), own_keep h.oE (Below.heap_setCell _ _ _ _ (by omega)), own_keep h.oW (Below.heap_setCell _ _ _ _ (by omega)),
    h.kp.setCell (Or.inr hp) u, h.bl.setCell (by omega) u, h.r1, h.r2, h.r3, h.r4, h.r5, h.lz⟩

/-- Entry i of the four rows: nothing but a nil withdrawal where the input says nil; else signers, approvals, status, and the withdrawal that holds copies of them. -/
def Entry (w : World) (L : Nat) (nl : Bool) (vs va ve vw : Option Value) (sn an : Nat) (sg ap : Nat → ByteArray) (en : ByteArray) : Prop :=
  (nl = true → vw = some (.pointer none)) ∧
  (nl = false → ∃ sa sc aa ac Wk sa' sc' aa' ac', vs = some (.slice sa sn sc) ∧ Row w L sa sn sg ∧ va = some (.slice aa an ac) ∧ Row w L aa an ap ∧ ve = some (.string en) ∧ vw = some (.pointer (some ⟨Wk, 0, none⟩)) ∧
    Wdr w L Wk sa' sn sc' aa' an ac' sg ap en ∧ sa'.isNone = sa.isNone ∧ aa'.isNone = aa.isNone)

theorem Entry.keep {w w' : World} {L : Nat} {nl : Bool} {vs va ve vw : Option Value} {sn an : Nat} {sg ap : Nat → ByteArray} {en : ByteArray} (h : Entry w L nl vs va ve vw sn an sg ap en) (hk : Kept L w w') : Entry w' L nl vs va ve vw sn an sg ap en := by
  refine ⟨h.1, fun hn => ?_⟩
  obtain ⟨sa, sc, aa, ac, Wk, sa', sc', aa', ac', h1, h2, h3, h4, h5, h6, h7, h8, h9⟩ := h.2 hn
  exact ⟨sa, sc, aa, ac, Wk, sa', sc', aa', ac', h1, h2.keep hk, h3, h4.keep hk, h5, h6, h7.keep hk, h8, h9⟩

/-- What the second loop has laid when k entries are done. -/
structure Laid (w0 x : World) (n SB AB EB WB L k : Nat) (nl : Nat → Bool) (sn an : Nat → Nat) (sg ap : Nat → Nat → ByteArray) (en : Nat → ByteArray) : Prop where
  rows : ∃ xs as es ws, Hold w0 x x n SB AB EB WB L xs as es ws ∧ (∀ i, i < k → Entry x L (nl i) xs[i]? as[i]? es[i]? ws[i]? (sn i) (an i) (sg i) (ap i) (en i)) ∧ ∀ i, k ≤ i → i < n → ws[i]? = some (.pointer none)

/-- A round is done: the head's entries stand, entry k is new. -/
theorem Laid.step {k : Nat} {nl : Nat → Bool} {sn an : Nat → Nat} {sg ap : Nat → Nat → ByteArray} {en : Nat → ByteArray} {vs va ve vw : Value} (hk : k < n)
    (h0 : ∀ i, i < k → Entry wr L (nl i) xs[i]? as[i]? es[i]? ws[i]? (sn i) (an i) (sg i) (ap i) (en i)) (hz : ∀ i, k ≤ i → i < n → ws[i]? = some (.pointer none))
    (hl : Hold w0 wr x n SB AB EB WB L (xs.set k vs) (as.set k va) (es.set k ve) (ws.set k vw))
    (he : Entry x L (nl k) (some vs) (some va) (some ve) (some vw) (sn k) (an k) (sg k) (ap k) (en k)) : Laid w0 x n SB AB EB WB L (k + 1) nl sn an sg ap en := by
  have l1 : k < (xs.set k vs).length := by have := hl.oS.1; omega
  have l2 : k < (as.set k va).length := by have := hl.oA.1; omega
  have l3 : k < (es.set k ve).length := by have := hl.oE.1; omega
  have l4 : k < (ws.set k vw).length := by have := hl.oW.1; omega
  simp only [List.length_set] at l1 l2 l3 l4
  refine ⟨_, _, _, _, ⟨hl.oS, hl.oA, hl.oE, hl.oW, Kept.refl _ _, hl.bl, hl.r1, hl.r2, hl.r3, hl.r4, hl.r5, hl.sizes⟩, fun i hi => ?_, fun i h1 h2 => ?_⟩
  · by_cases e : i = k
    · subst e
      rw [List.getElem?_set_self l1, List.getElem?_set_self l2, List.getElem?_set_self l3, List.getElem?_set_self l4]
      exact he
    · rw [List.getElem?_set_ne (fun h => e h.symm), List.getElem?_set_ne (fun h => e h.symm), List.getElem?_set_ne (fun h => e h.symm), List.getElem?_set_ne (fun h => e h.symm)]
      exact (h0 i (by omega)).keep hl.kp
  · rw [List.getElem?_set_ne (by omega)]
    exact hz i (by omega) h2
/-- A round that the input says nil: nothing is written. -/
theorem Laid.skip {k : Nat} {nl : Nat → Bool} {sn an : Nat → Nat} {sg ap : Nat → Nat → ByteArray} {en : Nat → ByteArray} (hk : k < n) (hn : nl k = true) (h : Laid w0 x n SB AB EB WB L k nl sn an sg ap en) : Laid w0 x n SB AB EB WB L (k + 1) nl sn an sg ap en := by
  obtain ⟨xs, as, es, ws, hl, h0, hz⟩ := h.rows
  refine ⟨xs, as, es, ws, hl, fun i hi => ?_, fun i h1 h2 => hz i (by omega) h2⟩
  by_cases e : i = k
  · subst e
    exact ⟨fun _ => hz i (Nat.le_refl _) hk, fun h => by rw [hn] at h; cases h⟩
  · exact h0 i (by omega)
theorem Laid.below {x' : World} {k : Nat} {nl : Nat → Bool} {sn an : Nat → Nat} {sg ap : Nat → Nat → ByteArray} {en : Nat → ByteArray} (h : Laid w0 x n SB AB EB WB L k nl sn an sg ap en) (hb : Below x.heap.size x x') : Laid w0 x' n SB AB EB WB L k nl sn an sg ap en := by
  obtain ⟨xs, as, es, ws, hl, h0, hz⟩ := h.rows
  have hl' := hl.below hb
  exact ⟨xs, as, es, ws, ⟨hl'.oS, hl'.oA, hl'.oE, hl'.oW, Kept.refl _ _, hl'.bl, hl'.r1, hl'.r2, hl'.r3, hl'.r4, hl'.r5, hl'.sizes⟩, fun i hi => (h0 i hi).keep (Kept.of_below hb), hz⟩

theorem below_made {w w' : World} (h : w.grownBy w' none) : Below w.heap.size w w' := (Below.refl _ _).grown h (Nat.le_refl _) (fun _ h => by cases h)

/-- The new withdrawal's cells behind the three last stores of a round. -/
theorem fin_cells {x : World} {Wk WB k : Nat} {v5 v15 : Value} (hne : WB ≠ Wk) (u5 u15 vw : Value) (h5 : x.cell? ⟨Wk, 5, none⟩ = some v5) (h15 : x.cell? ⟨Wk, 15, none⟩ = some v15) :
    (((x.setCell ⟨Wk, 5, none⟩ u5).setCell ⟨Wk, 15, none⟩ u15).setCell ⟨WB, k, none⟩ vw).cell? ⟨Wk, 5, none⟩ = some u5 ∧ (((x.setCell ⟨Wk, 5, none⟩ u5).setCell ⟨Wk, 15, none⟩ u15).setCell ⟨WB, k, none⟩ vw).cell? ⟨Wk, 15, none⟩ = some u15 ∧
    (((x.setCell ⟨Wk, 5, none⟩ u5).setCell ⟨Wk, 15, none⟩ u15).setCell ⟨WB, k, none⟩ vw).cell? ⟨Wk, 16, none⟩ = x.cell? ⟨Wk, 16, none⟩ ∧ (((x.setCell ⟨Wk, 5, none⟩ u5).setCell ⟨Wk, 15, none⟩ u15).setCell ⟨WB, k, none⟩ vw).cell? ⟨Wk, 17, none⟩ = x.cell? ⟨Wk, 17, none⟩ := by
  have hw : ∀ o, (⟨WB, k, none⟩ : Addr) ≠ ⟨Wk, o, none⟩ := fun o e => by injection e; omega
  have hd : ∀ a b : Nat, a ≠ b → (⟨Wk, a, none⟩ : Addr) ≠ ⟨Wk, b, none⟩ := fun a b h e => by injection e; omega
  refine ⟨?_, ?_, ?_, ?_⟩
  · rw [World.cell?_setCell_other _ _ _ _ (hw 5), World.cell?_setCell_other _ _ _ _ (hd 15 5 (by omega))]
    exact World.cell?_setCell_same _ _ _ h5
  · rw [World.cell?_setCell_other _ _ _ _ (hw 15)]
    exact World.cell?_setCell_same _ _ _ ((World.cell?_setCell_other _ _ _ _ (hd 5 15 (by omega))).trans h15)
  · rw [World.cell?_setCell_other _ _ _ _ (hw 16), World.cell?_setCell_other _ _ _ _ (hd 15 16 (by omega)), World.cell?_setCell_other _ _ _ _ (hd 5 16 (by omega))]
  · rw [World.cell?_setCell_other _ _ _ _ (hw 17), World.cell?_setCell_other _ _ _ _ (hd 15 17 (by omega)), World.cell?_setCell_other _ _ _ _ (hd 5 17 (by omega))]

/-- The four rows, as they are made. -/
theorem Laid.born {w W2 x3 x4 x5 x6 : World} {n : Nat} {xs as es : List Value} {nl : Nat → Bool} {sn an : Nat → Nat} {sg ap : Nat → Nat → ByteArray} {en : Nat → ByteArray} (hb : Below w.heap.size w W2)
    (oS : x3.ownsRow w.heap.size 22 1 (.slice (some ⟨W2.heap.size, 0, none⟩) n n) n xs) (gS : W2.grownBy x3 none)
    (oA : x4.ownsRow w.heap.size 22 1 (.slice (some ⟨x3.heap.size, 0, none⟩) n n) n as) (gA : x3.grownBy x4 none)
    (oE : x5.ownsRow w.heap.size 9 1 (.slice (some ⟨x4.heap.size, 0, none⟩) n n) n es) (gE : x4.grownBy x5 none)
    (oW : x6.ownsRow w.heap.size 30 1 (.slice (some ⟨x5.heap.size, 0, none⟩) n n) n (madeCells #[.pointer none] n).toList) (gW : x5.grownBy x6 none) :
    Laid w x6 n W2.heap.size x3.heap.size x4.heap.size x5.heap.size x6.heap.size 0 nl sn an sg ap en := by
  have b3 := below_made gS
  have b4 := below_made gA
  have b5 := below_made gE
  have b6 := below_made gW
  have s3 := own_lt oS
  have s4 := own_lt oA
  have s5 := own_lt oE
  have s6 := own_lt oW
  have z0 := hb.size
  refine ⟨xs, as, es, _, ⟨own_keep (own_keep (own_keep oS (b4.block _ s3)) (b5.block _ (by omega))) (b6.block _ (by omega)), own_keep (own_keep oA (b5.block _ s4)) (b6.block _ (by omega)), own_keep oE (b6.block _ s5), oW, Kept.refl _ _,
    (((hb.trans (b3.mono z0)).trans (b4.mono (by omega))).trans (b5.mono (by omega))).trans (b6.mono (by omega)), z0, s3, s4, s5, s6, Nat.le_refl _⟩, fun i hi => absurd hi (by omega), fun i _ hi => ?_⟩
  rw [toList_madeCells_one]
  simp [hi]
end
end Go.Proofs.Ybulkfodk
