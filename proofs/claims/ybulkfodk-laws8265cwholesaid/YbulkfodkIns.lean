import Derived.Test.YbulkfodkCopy
import Derived.Test.YbulkfodkHold
namespace Go.Proofs.Ybulkfodk
open Go.RowKit

/-- What the law is told of its slice of descriptions. -/
structure Ins (w : World) (n bw ow : Nat) (y : ByteArray) (nl : Nat → Bool) (ia : Nat → Option Addr) (im ic : Nat → Nat) (sg : Nat → Nat → ByteArray) (ab : Nat → Bool) (ek : Nat → Int) (ja : Nat → Option Addr) (jm jc : Nat → Nat) (ap : Nat → Nat → ByteArray) (pb : Nat → Bool) : Prop where
  lt : 0 < n → bw < w.heap.size
  c0 : ∀ i, i < n → w.cell? ⟨bw, ow + i * 6, none⟩ = some (.bool (nl i))
  c1 : ∀ i, i < n → w.cell? ⟨bw, ow + i * 6 + 1, none⟩ = some (.slice (ia i) (im i) (ic i))
  c2 : ∀ i, i < n → w.cell? ⟨bw, ow + i * 6 + 2, none⟩ = some (.bool (ab i))
  c3 : ∀ i, i < n → w.cell? ⟨bw, ow + i * 6 + 3, none⟩ = some (.int .u8 (ek i))
  c4 : ∀ i, i < n → w.cell? ⟨bw, ow + i * 6 + 4, none⟩ = some (.slice (ja i) (jm i) (jc i))
  c5 : ∀ i, i < n → w.cell? ⟨bw, ow + i * 6 + 5, none⟩ = some (.bool (pb i))
  rS : ∀ i, i < n → Row w 0 (ia i) (im i) (sg i)
  rA : ∀ i, i < n → Row w 0 (ja i) (jm i) (ap i)
  bS : ∀ i, i < n → im i ≤ 8796093022000
  bA : ∀ i, i < n → jm i ≤ 8796093022000
  e0 : ∀ i, i < n → 0 ≤ ek i ∧ ek i ≤ 255
  xS : ∀ i, i < n → ab i = true → sg i (im i) = y
  xA : ∀ i, i < n → pb i = true → ap i (jm i) = y

theorem Ins.keep {w w' : World} {n bw ow : Nat} {y : ByteArray} {nl : Nat → Bool} {ia : Nat → Option Addr} {im ic : Nat → Nat} {sg : Nat → Nat → ByteArray} {ab : Nat → Bool} {ek : Nat → Int} {ja : Nat → Option Addr} {jm jc : Nat → Nat} {ap : Nat → Nat → ByteArray} {pb : Nat → Bool}
    (h : Ins w n bw ow y nl ia im ic sg ab ek ja jm jc ap pb) (hb : Below w.heap.size w w') : Ins w' n bw ow y nl ia im ic sg ab ek ja jm jc ap pb := by
  have hc : ∀ i o, i < n → w'.cell? ⟨bw, o, none⟩ = w.cell? ⟨bw, o, none⟩ := fun i o hi => hb.cell (p := ⟨bw, o, none⟩) (h.lt (by omega))
  exact ⟨fun hn => Nat.lt_of_lt_of_le (h.lt hn) hb.size, fun i hi => (hc i _ hi).trans (h.c0 i hi), fun i hi => (hc i _ hi).trans (h.c1 i hi), fun i hi => (hc i _ hi).trans (h.c2 i hi), fun i hi => (hc i _ hi).trans (h.c3 i hi), fun i hi => (hc i _ hi).trans (h.c4 i hi), fun i hi => (hc i _ hi).trans (h.c5 i hi),
    fun i hi => (h.rS i hi).below hb, fun i hi => (h.rA i hi).below hb, h.bS, h.bA, h.e0, h.xS, h.xA⟩

/-- A copy without one more. -/
theorem copy_same (a : Option Addr) (n cap L : Nat) (s : Nat → ByteArray) (x : ByteArray) (w : World) (hn : (n : Int) ≤ 8796093022208) (hr : Row w L a n s) :
    Calls Yba.prog 4 #[.slice a n cap, .string x, .bool false] w fun e w' => ∃ a' c', e = .returned (.slice a' n c') ∧ a'.isNone = a.isNone ∧ Row w' w.heap.size a' n s ∧ Below w.heap.size w w' := by
  refine (copy_any a n cap L s x false w hn hr (fun h => by cases h)).mono ?_
  rintro e w' ⟨a', c', h1, h2, h3, h4⟩
  exact ⟨a', c', h1, by rw [h2]; simp, h3, h4⟩
end Go.Proofs.Ybulkfodk
