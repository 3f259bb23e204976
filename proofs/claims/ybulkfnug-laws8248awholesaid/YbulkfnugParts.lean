import Derived.Test.YbulkfnugBits
import Derived.WalkKit
namespace Go.Proofs.Ybulkfnug
open Go.RowKit
/-- The three cells of the moment m. -/
def tc (m : Int) : List Value := [.int .u64 (Plain.wl m), .int .i64 (Plain.ex m), .pointer none]
/-- The cells of the first k dates. -/
def dc (z : Nat → Int) (k : Nat) : List Value := (List.range k).flatMap fun i => tc (z i / 2)
theorem dc_succ (z : Nat → Int) (k : Nat) : dc z (k + 1) = dc z k ++ tc (z k / 2) := by
  unfold dc; rw [List.range_succ, List.flatMap_append]; simp
theorem dc_length (z : Nat → Int) : ∀ k, (dc z k).length = k * 3
  | 0 => rfl
  | k + 1 => by rw [dc_succ, List.length_append, dc_length z k]; simp [tc]; omega
theorem dc_get (z : Nat → Int) (i : Nat) : ∀ k, i < k → (dc z k)[i * 3]? = some (.int .u64 (Plain.wl (z i / 2))) ∧ (dc z k)[i * 3 + 1]? = some (.int .i64 (Plain.ex (z i / 2))) ∧ (dc z k)[i * 3 + 2]? = some (.pointer none)
  | 0, h => absurd h (by omega)
  | k + 1, h => by
    rw [dc_succ]
    have hl := dc_length z k
    by_cases hik : i < k
    · obtain ⟨h0, h1, h2⟩ := dc_get z i k hik
      rw [List.getElem?_append_left (by omega), List.getElem?_append_left (by omega), List.getElem?_append_left (by omega)]
      exact ⟨h0, h1, h2⟩
    · obtain rfl : i = k := by omega
      rw [List.getElem?_append_right (by omega), List.getElem?_append_right (by omega), List.getElem?_append_right (by omega), hl]
      refine ⟨?_, ?_, ?_⟩
      · rw [show i * 3 - i * 3 = 0 from by omega]; rfl
      · rw [show i * 3 + 1 - i * 3 = 1 from by omega]; rfl
      · rw [show i * 3 + 2 - i * 3 = 2 from by omega]; rfl
/-- A row is owned as long as its block stands. -/
theorem own_keep {w w' : World} {base : Nat} {e : TypeId} {size g n cap : Nat} {xs : List Value} (h : w.ownsRow base e size (.slice (some ⟨g, 0, none⟩) n cap) n xs) (hb : w'.heap[g]? = w.heap[g]?) : w'.ownsRow base e size (.slice (some ⟨g, 0, none⟩) n cap) n xs := by
  refine ⟨h.1, ?_⟩
  rcases h.2 with ⟨h2, _⟩ | ⟨g', cap', cur, hv, hg, hh, r⟩
  · cases h2
  · cases hv
    exact Or.inr ⟨g, cap, cur, rfl, hg, by rw [hb]; exact hh, r⟩
theorem own_lt {w : World} {base : Nat} {e : TypeId} {size g n cap : Nat} {xs : List Value} (h : w.ownsRow base e size (.slice (some ⟨g, 0, none⟩) n cap) n xs) : g < w.heap.size := by
  rcases h.2 with ⟨h2, _⟩ | ⟨g', cap', cur, hv, hg, hh, r⟩
  · cases h2
  · cases hv
    exact (Array.getElem?_eq_some_iff.1 hh).1
theorem tc_new (w : World) (m : Int) : ∀ (j : Nat) (u : Value), (tc m)[j]? = some u → (w.alloc (.cells #[.int .u64 (Plain.wl m), .int .i64 (Plain.ex m), .pointer none] 28)).cell? ((⟨w.heap.size, 0, none⟩ : Addr).add j) = some u := by
  intro j u h
  match j with
  | 0 => simpa [Addr.add, tc] using h
  | 1 => simpa [Addr.add, tc] using h
  | 2 => simpa [Addr.add, tc] using h
  | n + 3 => simp [tc] at h
theorem tc_one (m : Int) : ∀ u : Value, u ∈ tc m → u.oneCell' = true := by
  intro u h
  simp [tc] at h
  rcases h with rfl | rfl | rfl <;> rfl

/-- What the law's own memory holds behind the call of 'first': the observance at block G, what 'first' gave at block R, the dates at block D. -/
structure Laid (w : World) (D G R : Nat) (dl : Bool) (m f t : Int) (n : Nat) (z : Nat → Int) (v : Int) : Prop where
  ld : D < w.heap.size
  lg : G < w.heap.size
  lr : R < w.heap.size
  c0 : w.cell? ⟨G, 0, none⟩ = some (.bool dl)
  c1 : w.cell? ⟨G, 1, none⟩ = some (.int .u64 (Plain.wl m))
  c2 : w.cell? ⟨G, 2, none⟩ = some (.int .i64 (Plain.ex m))
  c3 : w.cell? ⟨G, 3, none⟩ = some (.pointer none)
  c4 : w.cell? ⟨G, 4, none⟩ = some (.int .i64 f)
  c5 : w.cell? ⟨G, 5, none⟩ = some (.int .i64 t)
  c34 : w.cell? ⟨G, 34, none⟩ = some (.slice (some ⟨D, 0, none⟩) n n)
  r0 : w.cell? ⟨R, 0, none⟩ = some (.int .u64 (Plain.wl v))
  r1 : w.cell? ⟨R, 1, none⟩ = some (.int .i64 (Plain.ex v))
  r2 : w.cell? ⟨R, 2, none⟩ = some (.pointer none)
  d0 : ∀ i, i < n → w.cell? ⟨D, i * 3, none⟩ = some (.int .u64 (Plain.wl (z i / 2)))
  d1 : ∀ i, i < n → w.cell? ⟨D, i * 3 + 1, none⟩ = some (.int .i64 (Plain.ex (z i / 2)))
  d2 : ∀ i, i < n → w.cell? ⟨D, i * 3 + 2, none⟩ = some (.pointer none)

theorem Laid.keep {w w' : World} {D G R : Nat} {dl : Bool} {m f t : Int} {n : Nat} {z : Nat → Int} {v : Int} (h : Laid w D G R dl m f t n z v) (hb : Below w.heap.size w w') : Laid w' D G R dl m f t n z v :=
  ⟨Nat.lt_of_lt_of_le h.ld hb.size, Nat.lt_of_lt_of_le h.lg hb.size, Nat.lt_of_lt_of_le h.lr hb.size,
   (hb.cell (p := ⟨G, 0, none⟩) h.lg).trans h.c0, (hb.cell (p := ⟨G, 1, none⟩) h.lg).trans h.c1, (hb.cell (p := ⟨G, 2, none⟩) h.lg).trans h.c2, (hb.cell (p := ⟨G, 3, none⟩) h.lg).trans h.c3,
   (hb.cell (p := ⟨G, 4, none⟩) h.lg).trans h.c4, (hb.cell (p := ⟨G, 5, none⟩) h.lg).trans h.c5, (hb.cell (p := ⟨G, 34, none⟩) h.lg).trans h.c34,
   (hb.cell (p := ⟨R, 0, none⟩) h.lr).trans h.r0, (hb.cell (p := ⟨R, 1, none⟩) h.lr).trans h.r1, (hb.cell (p := ⟨R, 2, none⟩) h.lr).trans h.r2,
   fun i hi => (hb.cell (p := ⟨D, i * 3, none⟩) h.ld).trans (h.d0 i hi), fun i hi => (hb.cell (p := ⟨D, i * 3 + 1, none⟩) h.ld).trans (h.d1 i hi), fun i hi => (hb.cell (p := ⟨D, i * 3 + 2, none⟩) h.ld).trans (h.d2 i hi)⟩

/-- Its birth: the observance boxed in w3 (its 35 cells cs), 'first' called there (w4), what it gave laid in a new block. -/
theorem Laid.born {w3 w4 : World} {base : Nat} {D n : Nat} {dl : Bool} {m f t : Int} {z : Nat → Int} {v : Int} {cs : Array Value} (hown : w3.ownsRow base 28 3 (.slice (some ⟨D, 0, none⟩) n n) n (dc z n))
    (h0 : cs[0]? = some (.bool dl)) (h1 : cs[1]? = some (.int .u64 (Plain.wl m))) (h2 : cs[2]? = some (.int .i64 (Plain.ex m))) (h3 : cs[3]? = some (.pointer none)) (h4 : cs[4]? = some (.int .i64 f)) (h5 : cs[5]? = some (.int .i64 t)) (h34 : cs[34]? = some (.slice (some ⟨D, 0, none⟩) n n))
    (hb : Below (w3.alloc (.cells cs 41)).heap.size (w3.alloc (.cells cs 41)) w4) : Laid (w4.alloc (.cells #[.int .u64 (Plain.wl v), .int .i64 (Plain.ex v), .pointer none] 28)) D w3.heap.size w4.heap.size dl m f t n z v := by
  have hl := own_lt hown
  have hs := hb.size
  simp at hs
  have hcell : ∀ i, (w4.alloc (.cells #[.int .u64 (Plain.wl v), .int .i64 (Plain.ex v), .pointer none] 28)).cell? ⟨w3.heap.size, i, none⟩ = cs[i]? := fun i => by
    rw [World.cell?_alloc_lt _ _ _ (show (⟨w3.heap.size, i, none⟩ : Addr).block < w4.heap.size from by show w3.heap.size < _; omega), hb.cell (p := ⟨w3.heap.size, i, none⟩) (by simp)]
    simp
  have hdate : ∀ i, (w4.alloc (.cells #[.int .u64 (Plain.wl v), .int .i64 (Plain.ex v), .pointer none] 28)).cell? ⟨D, i, none⟩ = w3.cell? ⟨D, i, none⟩ := fun i => by
    rw [World.cell?_alloc_lt _ _ _ (show (⟨D, i, none⟩ : Addr).block < w4.heap.size from by show D < _; omega), hb.cell (p := ⟨D, i, none⟩) (by simp; omega)]
    exact World.cell?_alloc_lt _ _ _ hl
  refine ⟨by simp; omega, by simp; omega, by simp, (hcell 0).trans h0, (hcell 1).trans h1, (hcell 2).trans h2, (hcell 3).trans h3, (hcell 4).trans h4, (hcell 5).trans h5, (hcell 34).trans h34, by simp, by simp, by simp, ?_, ?_, ?_⟩
  · intro i hi
    exact (hdate _).trans ((hown.cellAt _ (by omega)).trans (dc_get z i n hi).1)
  · intro i hi
    exact (hdate _).trans ((hown.cellAt _ (by omega)).trans (dc_get z i n hi).2.1)
  · intro i hi
    exact (hdate _).trans ((hown.cellAt _ (by omega)).trans (dc_get z i n hi).2.2)
end Go.Proofs.Ybulkfnug
