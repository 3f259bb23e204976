import Derived.Test.YbulkfodkIns
import Derived.ProofKit
import Derived.OpenShut
import Derived.SliceStrings
import Derived.SizedLaws
import Derived.Deep.Slices
namespace Go.Proofs.Ybulkfodk
open Go.ChangeShapes Go.WideShapes Go.ChangeAt Go.RowKit Go.Deep

/-- One description, as the walk is told of it. -/
structure Dsc where
  nl : Bool
  ia : Option Addr
  im : Nat
  ic : Nat
  sg : Nat → ByteArray
  ab : Bool
  ek : Int
  ja : Option Addr
  jm : Nat
  jc : Nat
  ap : Nat → ByteArray
  pb : Bool

theorem lt_of_cell {w : World} {b o : Nat} {v : Value} (h : w.cell? ⟨b, o, none⟩ = some v) : b < w.heap.size := by
  by_cases hb : b < w.heap.size
  · exact hb
  · simp [World.cell?, Array.getElem?_eq_none (Nat.le_of_not_lt hb)] at h

theorem row_of {w : World} {x : Addr} {len cap m : Nat} {s : Nat → ByteArray} (hl : len ≤ cap) (hz : m = cap) (hc : ∀ i, i < m → w.cell? (x.add i) = some (.string (s i))) : Row w 0 (some x) len s := by
  refine ⟨fun h => (by cases h), ?_⟩
  by_cases hp : 0 < len
  · obtain ⟨b, off, spot⟩ := x
    have hspot : spot = none := by simpa [Addr.add] using World.cell?_spot (hc 0 (by omega))
    subst hspot
    have hcs : ∀ i, i < len → w.cell? ⟨b, off + i, none⟩ = some (.string (s i)) := fun i hi => by rw [← Go.WideShapes.add_plain]; exact hc i (by omega)
    exact ⟨b, off, fun _ => ⟨rfl, Nat.zero_le _, lt_of_cell (hcs 0 hp)⟩, hcs⟩
  · exact ⟨0, 0, fun h => absurd h hp, fun i hi => absurd hi (by omega)⟩

section
variable {H : Type} {enc : TypeId × Value → H} {w : World}

/-- A slice of strings: its value, its strings (y behind the last), and the weight that its datum bears. -/
theorem open_row (y : ByteArray) {fuel : Nat} {v : Value} {z : DataW H × List MemPlace} (h : DataW.trod enc Yba.prog w 0 (fun _ => true) true fuel 22 [v] = some z) :
    ∃ a n c s, v = .slice a n c ∧ Row w 0 a n s ∧ s n = y ∧ (n = 0 ∨ ∃ m ∈ z.1.weights Yba.prog 22, n * 16 ≤ m) := by
  rcases open_strings Yba.underlying22 Yba.underlying9 (by kernel_rfl) h with ⟨hcs, _⟩ | ⟨x, l, c, ss, hcs, _, hl, hm, hz, hd, hcell, hws⟩
  · simp at hcs
    exact ⟨none, 0, 0, fun _ => y, hcs, Row.nil _ _ _, rfl, Or.inl rfl⟩
  · simp at hcs
    refine ⟨some x, l, c, fun i => if i < l then ss.getD i ByteArray.empty else y, hcs, ?_, by simp, Or.inr ?_⟩
    · exact (row_of (s := fun i => ss.getD i ByteArray.empty) hl (by simpa using hz) hcell).congr fun i hi => by simp [hi]
    · subst hd
      refine ⟨_, by simp only [DataW.weights, Yba.underlying22]; exact List.mem_cons_self .., ?_⟩
      have hb : Yba.prog.bytesOf 9 = 16 := by kernel_rfl
      have hz' : ss.length = c := by simpa using hz
      simp only [ChangeShapes.strs, List.length_map, List.length_take, List.length_drop, hb]
      omega

theorem weightsAll_mem {P : Program} {e : TypeId} {n : Nat} : ∀ {l : List (DataW H)} {d : DataW H}, d ∈ l → n ∈ d.weights P e → n ∈ DataW.weightsAll P e l
  | x :: r, d, hd, hn => by
    rw [DataW.weightsAll, List.mem_append]
    rcases List.mem_cons.1 hd with rfl | hd
    · exact Or.inl hn
    · exact Or.inr (weightsAll_mem hd hn)

/-- What is told of a description d that lies at x, its datum D. -/
def At (w : World) (y : ByteArray) (x : Addr) (D : DataW H) (d : Dsc) : Prop :=
  w.cell? (x.add 0) = some (.bool d.nl) ∧ w.cell? (x.add 1) = some (.slice d.ia d.im d.ic) ∧ w.cell? (x.add 2) = some (.bool d.ab) ∧ w.cell? (x.add 3) = some (.int .u8 d.ek) ∧ w.cell? (x.add 4) = some (.slice d.ja d.jm d.jc) ∧ w.cell? (x.add 5) = some (.bool d.pb) ∧
  Row w 0 d.ia d.im d.sg ∧ Row w 0 d.ja d.jm d.ap ∧ d.sg d.im = y ∧ d.ap d.jm = y ∧ (0 ≤ d.ek ∧ d.ek ≤ 255) ∧ (d.im = 0 ∨ ∃ m ∈ D.weights Yba.prog 25, d.im * 16 ≤ m) ∧ (d.jm = 0 ∨ ∃ m ∈ D.weights Yba.prog 25, d.jm * 16 ≤ m)

theorem six {α : Type} {l : List α} (h : l.length = 6) : ∃ a b c d e f, l = [a, b, c, d, e, f] := by
  match l, h with
  | [a, b, c, d, e, f], _ => exact ⟨a, b, c, d, e, f, rfl⟩

set_option maxRecDepth 100000 in
theorem open_elem (y : ByteArray) {x : Addr} {cs : List Value} {n : Nat} {D : DataW H} {Pl : List MemPlace} (hc : w.cells? 0 x 6 = some cs) (ht : DataW.trod enc Yba.prog w 0 (fun _ => true) true n 25 cs = some (D, Pl)) : ∃ d : Dsc, At w y x D d := by
  obtain ⟨-, hlen, hcell⟩ := World.cells?_some hc
  obtain ⟨xs, m, -, hx, -, hxl, hf⟩ := DataW.trod_struct Yba.underlying25 ht
  obtain ⟨v0, v1, v2, v3, v4, v5, rfl⟩ := six hlen
  obtain ⟨y0, y1, y2, y3, y4, y5, rfl⟩ := six hxl
  have f0 : DataW.trod enc Yba.prog w 0 (fun _ => true) true m 4 [v0] = some y0 := by have := hf 0 _ rfl; simpa [show Yba.prog.cellsOf 4 = 1 from by kernel_rfl] using this
  have f1 : DataW.trod enc Yba.prog w 0 (fun _ => true) true m 22 [v1] = some y1 := by have := hf 1 _ rfl; simpa [show Yba.prog.cellsOf 22 = 1 from by kernel_rfl] using this
  have f2 : DataW.trod enc Yba.prog w 0 (fun _ => true) true m 4 [v2] = some y2 := by have := hf 2 _ rfl; simpa [show Yba.prog.cellsOf 4 = 1 from by kernel_rfl] using this
  have f3 : DataW.trod enc Yba.prog w 0 (fun _ => true) true m 5 [v3] = some y3 := by have := hf 3 _ rfl; simpa [show Yba.prog.cellsOf 5 = 1 from by kernel_rfl] using this
  have f4 : DataW.trod enc Yba.prog w 0 (fun _ => true) true m 22 [v4] = some y4 := by have := hf 4 _ rfl; simpa [show Yba.prog.cellsOf 22 = 1 from by kernel_rfl] using this
  have f5 : DataW.trod enc Yba.prog w 0 (fun _ => true) true m 4 [v5] = some y5 := by have := hf 5 _ rfl; simpa [show Yba.prog.cellsOf 4 = 1 from by kernel_rfl] using this
  obtain ⟨b0, e0, -⟩ := DataW.trod_bool Yba.underlying4 f0
  obtain ⟨ia, im, ic, sg, rfl, hS, hSx, hSw⟩ := open_row y f1
  obtain ⟨b2, e2, -⟩ := DataW.trod_bool Yba.underlying4 f2
  obtain ⟨k3, e3, -, wf3⟩ := DataW.trod_int Yba.underlying5 f3
  obtain ⟨ja, jm, jc, ap, rfl, hA, hAx, hAw⟩ := open_row y f4
  obtain ⟨b5, e5, -⟩ := DataW.trod_bool Yba.underlying4 f5
  simp only [List.cons.injEq, and_true] at e0 e2 e3 e5
  subst e0 e2 e3 e5
  simp only [Prod.mk.injEq] at hx
  have hD := hx.1
  have w1 : ∀ q ∈ y1.1.weights Yba.prog 22, q ∈ D.weights Yba.prog 25 := fun q hq => by
    rw [hD]; simp only [DataW.weights, Yba.underlying25, List.map_cons, List.map_nil]
    exact DataW.weights_mem_each (j := 1) (t := 22) rfl rfl q hq
  have w4 : ∀ q ∈ y4.1.weights Yba.prog 22, q ∈ D.weights Yba.prog 25 := fun q hq => by
    rw [hD]; simp only [DataW.weights, Yba.underlying25, List.map_cons, List.map_nil]
    exact DataW.weights_mem_each (j := 4) (t := 22) rfl rfl q hq
  refine ⟨⟨b0, ia, im, ic, sg, b2, k3, ja, jm, jc, ap, b5⟩, hcell 0 (by omega), hcell 1 (by omega), hcell 2 (by omega), hcell 3 (by omega), hcell 4 (by omega), hcell 5 (by omega), hS, hA, hSx, hAx, bounds_u8 wf3, ?_, ?_⟩
  · rcases hSw with h | ⟨q, hq, hle⟩
    · exact Or.inl h
    · exact Or.inr ⟨q, w1 q hq, hle⟩
  · rcases hAw with h | ⟨q, hq, hle⟩
    · exact Or.inl h
    · exact Or.inr ⟨q, w4 q hq, hle⟩
end
end Go.Proofs.Ybulkfodk
