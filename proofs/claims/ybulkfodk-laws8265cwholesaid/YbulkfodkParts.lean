import Derived.WalkKit
namespace Go.Proofs.Ybulkfodk
open Go.RowKit

/-- A slice of n strings s 0, s 1, ..: where there is one, its row lies from block L on. -/
def Row (w : World) (L : Nat) (a : Option Addr) (n : Nat) (s : Nat → ByteArray) : Prop :=
  (a = none → n = 0) ∧ ∃ b off, (0 < n → a = some ⟨b, off, none⟩ ∧ L ≤ b ∧ b < w.heap.size) ∧ ∀ i, i < n → w.cell? ⟨b, off + i, none⟩ = some (.string (s i))

/-- The blocks from L on stand as they stood. -/
structure Kept (L : Nat) (w w' : World) : Prop where
  size : w.heap.size ≤ w'.heap.size
  block : ∀ b, L ≤ b → b < w.heap.size → w'.heap[b]? = w.heap[b]?

theorem Kept.refl (L : Nat) (w : World) : Kept L w w := ⟨Nat.le_refl _, fun _ _ _ => rfl⟩
theorem Kept.trans {L : Nat} {a b c : World} (h : Kept L a b) (k : Kept L b c) : Kept L a c :=
  ⟨Nat.le_trans h.size k.size, fun x hx hy => (k.block x hx (Nat.lt_of_lt_of_le hy h.size)).trans (h.block x hx hy)⟩
theorem Kept.of_below {L : Nat} {w w' : World} (h : Below w.heap.size w w') : Kept L w w' := ⟨h.size, fun b _ hb => h.block b hb⟩
theorem Kept.setCell {L : Nat} {a w : World} (h : Kept L a w) {p : Addr} (hp : p.block < L ∨ a.heap.size ≤ p.block) (u : Value) : Kept L a (w.setCell p u) :=
  ⟨by simpa [World.setCell] using h.size, fun b hb hlt => by rw [Below.heap_setCell _ _ _ _ (by omega)]; exact h.block b hb hlt⟩
theorem Kept.cell {L : Nat} {w w' : World} (h : Kept L w w') {p : Addr} (h1 : L ≤ p.block) (h2 : p.block < w.heap.size) : w'.cell? p = w.cell? p := World.cell?_of_block (w := w) (h.block p.block h1 h2)

theorem Row.keep {w w' : World} {L : Nat} {a : Option Addr} {n : Nat} {s : Nat → ByteArray} (h : Row w L a n s) (hk : Kept L w w') : Row w' L a n s := by
  obtain ⟨h0, b, off, h1, h2⟩ := h
  refine ⟨h0, b, off, fun hn => ⟨(h1 hn).1, (h1 hn).2.1, Nat.lt_of_lt_of_le (h1 hn).2.2 hk.size⟩, fun i hi => ?_⟩
  have hn : 0 < n := by omega
  exact (hk.cell (p := ⟨b, off + i, none⟩) (h1 hn).2.1 (h1 hn).2.2).trans (h2 i hi)
theorem Row.below {w w' : World} {L : Nat} {a : Option Addr} {n : Nat} {s : Nat → ByteArray} (h : Row w L a n s) (hb : Below w.heap.size w w') : Row w' L a n s := h.keep (Kept.of_below hb)
theorem Row.low {w : World} {L L' : Nat} {a : Option Addr} {n : Nat} {s : Nat → ByteArray} (h : Row w L a n s) (hl : L' ≤ L) : Row w L' a n s := by
  obtain ⟨h0, b, off, h1, h2⟩ := h
  exact ⟨h0, b, off, fun hn => ⟨(h1 hn).1, Nat.le_trans hl (h1 hn).2.1, (h1 hn).2.2⟩, h2⟩
theorem Row.nil (w : World) (L : Nat) (s : Nat → ByteArray) : Row w L none 0 s := ⟨fun _ => rfl, 0, 0, fun h => absurd h (by omega), fun i hi => absurd hi (by omega)⟩
theorem Row.congr {w : World} {L : Nat} {a : Option Addr} {n : Nat} {s t : Nat → ByteArray} (h : Row w L a n s) (he : ∀ i, i < n → s i = t i) : Row w L a n t := by
  obtain ⟨h0, b, off, h1, h2⟩ := h
  exact ⟨h0, b, off, h1, fun i hi => by rw [← he i hi]; exact h2 i hi⟩

/-- Is x among the first n? In the walk's own form. -/
def hasB (s : Nat → ByteArray) (n : Nat) (x : ByteArray) : Bool := (List.range n).any fun i => (s i).toList == x.toList
theorem hasB_zero (s : Nat → ByteArray) (x : ByteArray) : hasB s 0 x = false := rfl
theorem hasB_succ (s : Nat → ByteArray) (n : Nat) (x : ByteArray) : hasB s (n + 1) x = (hasB s n x || (s n).toList == x.toList) := by
  unfold hasB; rw [List.range_succ, List.any_append]; simp
theorem hasB_hit (s : Nat → ByteArray) (n k : Nat) (x : ByteArray) (hk : k < n) (h : ((s k).toList == x.toList) = true) : hasB s n x = true := by
  unfold hasB; rw [List.any_eq_true]; exact ⟨k, List.mem_range.2 hk, h⟩
theorem hasB_flip (s : Nat → ByteArray) (k : Nat) (x : ByteArray) : (x.toList == (s k).toList) = ((s k).toList == x.toList) := by
  rw [Bool.eq_iff_iff]; simp; exact eq_comm
/-- How many strings a copy has, with or without one more. -/
def up (n : Nat) (add : Bool) : Nat := match add with | true => n + 1 | false => n
theorem up_le (n : Nat) (add : Bool) : n ≤ up n add ∧ up n add ≤ n + 1 := by cases add <;> simp [up]

/-- The first k strings, as cells. -/
def strs (s : Nat → ByteArray) (k : Nat) : List Value := (List.range k).map fun i => .string (s i)
theorem strs_succ (s : Nat → ByteArray) (k : Nat) : strs s (k + 1) = strs s k ++ [.string (s k)] := by unfold strs; rw [List.range_succ, List.map_append]; rfl
theorem strs_get (s : Nat → ByteArray) (k i : Nat) (h : i < k) : (strs s k)[i]? = some (.string (s i)) := by unfold strs; simp [h]
theorem own_keep {w w' : World} {base : Nat} {e : TypeId} {size g n cap : Nat} {xs : List Value} (h : w.ownsRow base e size (.slice (some ⟨g, 0, none⟩) n cap) n xs) (hb : w'.heap[g]? = w.heap[g]?) : w'.ownsRow base e size (.slice (some ⟨g, 0, none⟩) n cap) n xs := by
  refine ⟨h.1, ?_⟩
  rcases h.2 with ⟨h2, _⟩ | ⟨g', cap', cur, hv, hg, hh, r⟩
  · cases h2
  · cases hv
    exact Or.inr ⟨g, cap, cur, rfl, hg, by rw [hb]; exact hh, r⟩
theorem own_lt {w : World} {base : Nat} {e : TypeId} {size g n cap : Nat} {xs : List Value} (h : w.ownsRow base e size (.slice (some ⟨g, 0, none⟩) n cap) n xs) : g < w.heap.size := by
  rcases h.2 with ⟨h2, _⟩ | ⟨g', cap', cur, hv, hg, hh, r⟩
  · cases h2
  · cases hv
    exact (Array.getElem?_eq_some_iff.1 hh).1
theorem own_there {w : World} {base : Nat} {e : TypeId} {g n cap : Nat} {xs : List Value} (h : w.ownsRow base e 1 (.slice (some ⟨g, 0, none⟩) n cap) n xs) (j : Nat) (hj : j < n) : ∃ v, xs[j]? = some v ∧ w.cell? ⟨g, j, none⟩ = some v := by
  have hl := h.1
  have hi : j < xs.length := by omega
  exact ⟨xs[j], List.getElem?_eq_getElem hi, (h.cellAt j (by omega)).trans (List.getElem?_eq_getElem hi)⟩
/-- A row of the call's own, full of strings, is a slice of them. -/
theorem Row.own {w : World} {base g n cap : Nat} {s : Nat → ByteArray} (h : w.ownsRow base 9 1 (.slice (some ⟨g, 0, none⟩) n cap) n (strs s n)) (hb : base ≤ g) : Row w base (some ⟨g, 0, none⟩) n s :=
  ⟨fun e => (by cases e), g, 0, fun _ => ⟨rfl, hb, own_lt h⟩, fun i hi => by rw [Nat.zero_add]; exact (h.cellAt i (by omega)).trans (strs_get s n i hi)⟩
theorem one_string (x : ByteArray) : ∀ u ∈ [Value.string x], u.oneCell' = true := by
  intro u h
  simp at h
  subst h; rfl
theorem new_string (w : World) (x : ByteArray) : ∀ (j : Nat) (u : Value), [Value.string x][j]? = some u → (w.alloc (.cells #[.string x] 9)).cell? ((⟨w.heap.size, 0, none⟩ : Addr).add j) = some u := by
  intro j u h
  match j with
  | 0 => simpa [Addr.add] using h
  | n + 1 => simp at h

/-- The command (block Cb) and the engine (block Eb): the one member of the map (block M) and the row of withdrawals (block WB). -/
structure Eng (w : World) (L Eb Cb M WB n : Nat) (y : ByteArray) (id : Int) (ra : Option Addr) (rn rc : Nat) (rs : Nat → ByteArray) : Prop where
  lc : Cb < w.heap.size
  le : Eb < w.heap.size
  lm : M < w.heap.size
  lw : WB < w.heap.size
  by0 : w.cell? ⟨Cb, 0, none⟩ = some (.string y)
  id0 : w.cell? ⟨Cb, 1, none⟩ = some (.int .i64 id)
  c17 : w.cell? ⟨Eb, 17, none⟩ = some (.map (some M))
  map : w.heap[M]? = some (.map #[⟨.string y, .slice ra rn rc, 0⟩] 1)
  c25 : w.cell? ⟨Eb, 25, none⟩ = some (.slice (some ⟨WB, 0, none⟩) n n)
  row : Row w L ra rn rs

theorem Eng.keep {w w' : World} {L Eb Cb M WB n : Nat} {y : ByteArray} {id : Int} {ra : Option Addr} {rn rc : Nat} {rs : Nat → ByteArray} (h : Eng w L Eb Cb M WB n y id ra rn rc rs) (hb : Below w.heap.size w w') : Eng w' L Eb Cb M WB n y id ra rn rc rs :=
  ⟨Nat.lt_of_lt_of_le h.lc hb.size, Nat.lt_of_lt_of_le h.le hb.size, Nat.lt_of_lt_of_le h.lm hb.size, Nat.lt_of_lt_of_le h.lw hb.size, (hb.cell (p := ⟨Cb, 0, none⟩) h.lc).trans h.by0, (hb.cell (p := ⟨Cb, 1, none⟩) h.lc).trans h.id0,
   (hb.cell (p := ⟨Eb, 17, none⟩) h.le).trans h.c17, (hb.block M h.lm).trans h.map, (hb.cell (p := ⟨Eb, 25, none⟩) h.le).trans h.c25, h.row.below hb⟩

/-- A withdrawal in block Wk. -/
structure Wdr (w : World) (L Wk : Nat) (sa : Option Addr) (sn sc : Nat) (aa : Option Addr) (an ac : Nat) (sg ap : Nat → ByteArray) (en : ByteArray) : Prop where
  lk : L ≤ Wk
  lt : Wk < w.heap.size
  c5 : w.cell? ⟨Wk, 5, none⟩ = some (.slice sa sn sc)
  c15 : w.cell? ⟨Wk, 15, none⟩ = some (.string en)
  c16 : w.cell? ⟨Wk, 16, none⟩ = some (.slice none 0 0)
  c17 : w.cell? ⟨Wk, 17, none⟩ = some (.slice aa an ac)
  sigs : Row w L sa sn sg
  apps : Row w L aa an ap

theorem Wdr.keep {w w' : World} {L Wk : Nat} {sa : Option Addr} {sn sc : Nat} {aa : Option Addr} {an ac : Nat} {sg ap : Nat → ByteArray} {en : ByteArray} (h : Wdr w L Wk sa sn sc aa an ac sg ap en) (hk : Kept L w w') : Wdr w' L Wk sa sn sc aa an ac sg ap en :=
  ⟨h.lk, Nat.lt_of_lt_of_le h.lt hk.size, (hk.cell (p := ⟨Wk, 5, none⟩) h.lk h.lt).trans h.c5, (hk.cell (p := ⟨Wk, 15, none⟩) h.lk h.lt).trans h.c15, (hk.cell (p := ⟨Wk, 16, none⟩) h.lk h.lt).trans h.c16,
   (hk.cell (p := ⟨Wk, 17, none⟩) h.lk h.lt).trans h.c17, h.sigs.keep hk, h.apps.keep hk⟩

/-- How 'decide' ends where it refuses for the reason r. -/
def Refused (w : World) (r : ByteArray) (e : Ending) (w' : World) : Prop :=
  ∃ P, e = .returned (.tuple #[.slice none 0 0, .iface 72 (.pointer (some ⟨P, 0, none⟩))]) ∧ w'.cell? ⟨P, 0, none⟩ = some (.string r) ∧ P < w'.heap.size ∧ Below w.heap.size w w'
/-- .. where it approves. -/
def Approved (w : World) (y : ByteArray) (id : Int) (an : Nat) (e : Ending) (w' : World) : Prop :=
  ∃ P Q, e = .returned (.tuple #[.slice (some ⟨Q, 0, none⟩) 1 1, .nilIface]) ∧ w'.cell? ⟨Q, 0, none⟩ = some (.iface 76 (.pointer (some ⟨P, 0, none⟩))) ∧ w'.cell? ⟨P, 0, none⟩ = some (.int .i64 id) ∧ w'.cell? ⟨P, 1, none⟩ = some (.string y) ∧
    w'.cell? ⟨P, 2, none⟩ = some (.int .i64 ((an : Int) + 1)) ∧ Below w.heap.size w w'
end Go.Proofs.Ybulkfodk
