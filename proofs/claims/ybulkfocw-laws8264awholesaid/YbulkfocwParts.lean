import Derived.WalkKit
namespace Go.Proofs.Ybulkfocw
open Go.RowKit

/-- What node i's third field (children) holds: nil at the leaf. -/
def kids (n : Nat) (K wd : Nat → Nat) (i : Nat) : Value := if i < n then .slice (some ⟨K i, 0, none⟩) (wd i) (wd i) else .slice none 0 0

/-- The nodes from q on of the leftmost path: node i lies in block N i; its children, where it has some, in block K i, the first of them node i + 1. All of it lies above block C. -/
structure Part (w : World) (C n q : Nat) (N K wd : Nat → Nat) : Prop where
  node : ∀ i, q ≤ i → i ≤ n → C < N i ∧ N i < w.heap.size ∧ w.cell? ⟨N i, 2, none⟩ = some (kids n K wd i)
  kid : ∀ i, q ≤ i → i < n → C < K i ∧ K i < w.heap.size ∧ w.cell? ⟨K i, 0, none⟩ = some (.pointer (some ⟨N (i + 1), 0, none⟩))

theorem Part.keep {w w' : World} {C n q : Nat} {N K wd : Nat → Nat} (h : Part w C n q N K wd) (hb : Below w.heap.size w w') : Part w' C n q N K wd :=
  ⟨fun i h1 h2 => ⟨(h.node i h1 h2).1, Nat.lt_of_lt_of_le (h.node i h1 h2).2.1 hb.size, (hb.cell (p := ⟨N i, 2, none⟩) (h.node i h1 h2).2.1).trans (h.node i h1 h2).2.2⟩,
   fun i h1 h2 => ⟨(h.kid i h1 h2).1, Nat.lt_of_lt_of_le (h.kid i h1 h2).2.1 hb.size, (hb.cell (p := ⟨K i, 0, none⟩) (h.kid i h1 h2).2.1).trans (h.kid i h1 h2).2.2⟩⟩

/-- The chain: a row of n + 1 pointers in block C, those from q on written. -/
structure Chain (w : World) (B C n q : Nat) (N : Nat → Nat) : Prop where
  own : ∃ ys, w.ownsRow B 24 1 (.slice (some ⟨C, 0, none⟩) (n + 1) (n + 1)) (n + 1) ys ∧ ∀ i, q ≤ i → i ≤ n → ys[i]? = some (.pointer (some ⟨N i, 0, none⟩))

theorem own_keep {w w' : World} {base : Nat} {e : TypeId} {size g n cap : Nat} {xs : List Value} (h : w.ownsRow base e size (.slice (some ⟨g, 0, none⟩) n cap) n xs) (hb : w'.heap[g]? = w.heap[g]?) : w'.ownsRow base e size (.slice (some ⟨g, 0, none⟩) n cap) n xs := by
  refine ⟨h.1, ?_⟩
  rcases h.2 with ⟨h2, _⟩ | ⟨g', cap', cur, hv, hg, hh, r⟩
  · cases h2
  · cases hv
    exact Or.inr ⟨g, cap, cur, rfl, hg, by rw [hb]; exact hh, r⟩
theorem own_lt {w : World} {base : Nat} {e : TypeId} {size g n cap : Nat} {xs : List Value} (h : w.ownsRow base e size (.slice (some ⟨g, 0, none⟩) n cap) n xs) : g < w.heap.size := by
  rcases h.2 with ⟨h2, _⟩ | ⟨g', cap', cur, hv, hg, hh, r⟩
  · cases h2
  · cases hv
    exact (Array.getElem?_eq_some_iff.1 hh).1

theorem own_there {w : World} {base : Nat} {e : TypeId} {g n cap : Nat} {xs : List Value} (h : w.ownsRow base e 1 (.slice (some ⟨g, 0, none⟩) n cap) n xs) (j : Nat) (hj : j < n) : ∃ v, w.cell? ⟨g, j, none⟩ = some v := by
  have hl := h.1
  have hi : j < xs.length := by omega
  exact ⟨xs[j], (h.cellAt j (by omega)).trans (List.getElem?_eq_getElem hi)⟩
theorem below_made {w w' : World} (h : w.grownBy w' none) : Below w.heap.size w w' := (Below.refl _ _).grown h (Nat.le_refl _) (fun _ h => by cases h)

theorem Chain.lt {w : World} {B C n q : Nat} {N : Nat → Nat} (h : Chain w B C n q N) : C < w.heap.size := by
  obtain ⟨ys, ho, _⟩ := h.own
  exact own_lt ho
theorem Chain.keep {w w' : World} {B C n q : Nat} {N : Nat → Nat} (h : Chain w B C n q N) (hb : Below w.heap.size w w') : Chain w' B C n q N := by
  have hl := h.lt
  obtain ⟨ys, ho, hy⟩ := h.own
  exact ⟨ys, own_keep ho (hb.block _ hl), hy⟩
theorem Chain.cell {w : World} {B C n q : Nat} {N : Nat → Nat} (h : Chain w B C n q N) (i : Nat) (h1 : q ≤ i) (h2 : i ≤ n) : w.cell? ⟨C, i, none⟩ = some (.pointer (some ⟨N i, 0, none⟩)) := by
  obtain ⟨ys, ho, hy⟩ := h.own
  exact (ho.cellAt i (by omega)).trans (hy i h1 h2)
theorem Chain.free {w : World} {B C n q : Nat} {N : Nat → Nat} (h : Chain w B C n q N) (i : Nat) : w.frozen? ⟨C, i, none⟩ = false := by
  obtain ⟨ys, ho, hy⟩ := h.own
  exact ho.frozenAt i
theorem Chain.there {w : World} {B C n q : Nat} {N : Nat → Nat} (h : Chain w B C n q N) (i : Nat) (h2 : i ≤ n) : ∃ v, w.cell? ⟨C, i, none⟩ = some v := by
  obtain ⟨ys, ho, hy⟩ := h.own
  have hl := ho.1
  have hi : i < ys.length := by omega
  exact ⟨ys[i], (ho.cellAt i (by omega)).trans (List.getElem?_eq_getElem hi)⟩

/-- A store into the chain's block turns no node and no row of children. -/
theorem Part.chain {w : World} {C n q : Nat} {N K wd : Nat → Nat} (h : Part w C n q N K wd) (i : Nat) (u : Value) : Part (w.setCell ⟨C, i, none⟩ u) C n q N K wd :=
  ⟨fun j h1 h2 => by
    obtain ⟨a, b, c⟩ := h.node j h1 h2
    refine ⟨a, by simpa [World.setCell] using b, ?_⟩
    rw [World.cell?_setCell_other _ _ _ _ (by intro e; injection e; omega)]
    exact c,
   fun j h1 h2 => by
    obtain ⟨a, b, c⟩ := h.kid j h1 h2
    refine ⟨a, by simpa [World.setCell] using b, ?_⟩
    rw [World.cell?_setCell_other _ _ _ _ (by intro e; injection e; omega)]
    exact c⟩

/-- One node more: it lies in block s, its children's row in block k. -/
theorem Part.more {w : World} {C n p s k : Nat} {N K wd : Nat → Nat} (h : Part w C n (p + 1) N K wd) (hp : p ≤ n) (h1 : C < s) (h2 : s < w.heap.size)
    (hv : w.cell? ⟨s, 2, none⟩ = some (if p < n then .slice (some ⟨k, 0, none⟩) (wd p) (wd p) else .slice none 0 0))
    (hk : p < n → C < k ∧ k < w.heap.size ∧ w.cell? ⟨k, 0, none⟩ = some (.pointer (some ⟨N (p + 1), 0, none⟩))) :
    Part w C n p (fun i => if i = p then s else N i) (fun i => if i = p then k else K i) wd := by
  refine ⟨fun i a b => ?_, fun i a b => ?_⟩
  · by_cases e : i = p
    · subst e
      simp only [if_true]
      exact ⟨h1, h2, by rw [hv]; simp [kids]⟩
    · simp only [if_neg e]
      obtain ⟨x, y, z⟩ := h.node i (by omega) b
      refine ⟨x, y, z.trans ?_⟩
      simp [kids, e]
  · by_cases e : i = p
    · subst e
      simp only [if_true]
      rw [if_neg (by omega)]
      exact hk b
    · simp only [if_neg e]
      rw [if_neg (by omega)]
      exact h.kid i (by omega) b

theorem Chain.more {w : World} {B C n p s : Nat} {N : Nat → Nat} (h : Chain w B C n (p + 1) N) (hp : p ≤ n) : Chain (w.setCell ⟨C, p, none⟩ (.pointer (some ⟨s, 0, none⟩))) B C n p (fun i => if i = p then s else N i) := by
  obtain ⟨ys, ho, hy⟩ := h.own
  have hl := ho.1
  refine ⟨_, (ho.stored p (.pointer (some ⟨s, 0, none⟩))).1, fun i a b => ?_⟩
  by_cases e : i = p
  · subst e
    simp only [if_true]
    rw [List.getElem?_set_self (by omega)]
  · simp only [if_neg e]
    rw [List.getElem?_set_ne (fun h => e h.symm)]
    exact hy i (by omega) b

/-- The round of the outer loop, from its head (wr) to the store into the chain (w2 ahead of it). -/
theorem round_step {wr w2 : World} {B C n p : Nat} {N K wd : Nat → Nat} (hP : Part wr C n (p + 1) N K wd) (hC : Chain wr B C n (p + 1) N) (hp : p ≤ n) (hb : Below wr.heap.size wr w2) (hs : wr.heap.size < w2.heap.size) {V : Value}
    (hv : w2.cell? ⟨wr.heap.size, 2, none⟩ = some V)
    (hk : p < n → ∃ k, V = .slice (some ⟨k, 0, none⟩) (wd p) (wd p) ∧ wr.heap.size < k ∧ k < w2.heap.size ∧ w2.cell? ⟨k, 0, none⟩ = some (.pointer (some ⟨N (p + 1), 0, none⟩)))
    (hn : ¬ p < n → V = .slice none 0 0) :
    ∃ N' K', Part (w2.setCell ⟨C, p, none⟩ (.pointer (some ⟨wr.heap.size, 0, none⟩))) C n p N' K' wd ∧ Chain (w2.setCell ⟨C, p, none⟩ (.pointer (some ⟨wr.heap.size, 0, none⟩))) B C n p N' := by
  have hl := hC.lt
  have P2 := hP.keep hb
  have C2 := hC.keep hb
  by_cases h : p < n
  · obtain ⟨k, rfl, a, b, c⟩ := hk h
    exact ⟨_, _, (P2.more (k := k) hp hl hs (by rw [hv, if_pos h]) (fun _ => ⟨by omega, b, c⟩)).chain p _, C2.more hp⟩
  · obtain rfl := hn h
    exact ⟨_, _, (P2.more (k := 0) hp hl hs (by rw [hv, if_neg h]) (fun h' => absurd h' h)).chain p _, C2.more hp⟩

/-- The cells of the first i steps of the cursor's path. -/
def steps (N : Nat → Nat) (i : Nat) : List Value := (List.range i).flatMap fun j => [.pointer (some ⟨N j, 0, none⟩), .int .i64 0]
theorem steps_succ (N : Nat → Nat) (i : Nat) : steps N (i + 1) = steps N i ++ [.pointer (some ⟨N i, 0, none⟩), .int .i64 0] := by
  unfold steps; rw [List.range_succ, List.flatMap_append]; simp
theorem steps_length (N : Nat → Nat) : ∀ i, (steps N i).length = i * 2
  | 0 => rfl
  | i + 1 => by rw [steps_succ, List.length_append, steps_length N i]; simp; omega
theorem steps_get (N : Nat → Nat) (j : Nat) : ∀ i, j < i → (steps N i)[j * 2]? = some (.pointer (some ⟨N j, 0, none⟩)) ∧ (steps N i)[j * 2 + 1]? = some (.int .i64 0)
  | 0, h => absurd h (by omega)
  | i + 1, h => by
    rw [steps_succ]
    have hl := steps_length N i
    by_cases hji : j < i
    · obtain ⟨h0, h1⟩ := steps_get N j i hji
      rw [List.getElem?_append_left (by omega), List.getElem?_append_left (by omega)]
      exact ⟨h0, h1⟩
    · obtain rfl : j = i := by omega
      rw [List.getElem?_append_right (by omega), List.getElem?_append_right (by omega), hl]
      refine ⟨?_, ?_⟩
      · rw [show j * 2 - j * 2 = 0 from by omega]; rfl
      · rw [show j * 2 + 1 - j * 2 = 1 from by omega]; rfl
/-- A value that owns a row owns one from 'base' on. -/
theorem own_base {w : World} {base : Nat} {e : TypeId} {size n : Nat} {v : Value} {xs : List Value} (h : w.ownsRow base e size v n xs) (k : Nat) (hk : v.ownBlock = some k) : base ≤ k := by
  rcases h.2 with ⟨rfl, _⟩ | ⟨g, cap, cur, rfl, hg, _⟩
  · simp [Value.ownBlock] at hk
  · simp [Value.ownBlock] at hk; omega
end Go.Proofs.Ybulkfocw
