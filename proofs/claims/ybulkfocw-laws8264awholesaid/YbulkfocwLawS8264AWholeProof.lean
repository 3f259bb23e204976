/-
  The proof of 'Rows.LawS8264AWholeSaid'. The frame is the guide's way for a law, at a slice of bytes and a slice of strings; the walk: YbulkfocwWalk ('big', 'core').
-/
import Derived.Test.YbulkfocwRows
import Derived.WalkKit
import Derived.ProofKit
import Derived.OpenShut
import Derived.ShutString
import Derived.ChangeOld
import Derived.Below
import Derived.SliceStrings
import Derived.Test.YbulkfocwWalk
namespace Go.Proofs.Ybulkfocw.lawS8264AWhole
open Go.ChangeShapes Go.WideShapes Go.ChangeAt Go.RowKit
open Go.ChangeMaps (open_string shut_string)
set_option linter.unusedVariables false

theorem own : ownKnob Yba.prog.godebug = none := by kernel_rfl
theorem laidOut : laidOutB Yba.prog = true := by kernel_rfl

/-- What the walk is told of a slice of one-cell elements that came in: where there is an element, its address and its cells. -/
def Row (w : World) (a : Option Addr) (len : Nat) (val : Nat → Value) : Prop :=
  len ≤ 9223372036854775807 ∧ ∃ b off, (0 < len → a = some ⟨b, off, none⟩ ∧ b < w.heap.size) ∧ ∀ i, i < len → w.cell? ⟨b, off + i, none⟩ = some (val i)

theorem lt_of_cell {w : World} {b o : Nat} {v : Value} (h : w.cell? ⟨b, o, none⟩ = some v) : b < w.heap.size := by
  by_cases hb : b < w.heap.size
  · exact hb
  · simp [World.cell?, Array.getElem?_eq_none (Nat.le_of_not_lt hb)] at h

theorem row_of {w : World} {x : Addr} {len cap m : Nat} {val : Nat → Value} (hl : len ≤ cap) (hm : cap ≤ maxLen) (hz : m = cap) (hc : ∀ i, i < m → w.cell? (x.add i) = some (val i)) : Row w (some x) len val := by
  unfold maxLen at hm
  refine ⟨by omega, ?_⟩
  by_cases hp : 0 < len
  · obtain ⟨b, off, spot⟩ := x
    have hspot : spot = none := by simpa [Addr.add] using World.cell?_spot (hc 0 (by omega))
    subst hspot
    have hcs : ∀ i, i < len → w.cell? ⟨b, off + i, none⟩ = some (val i) := fun i hi => by rw [← Go.WideShapes.add_plain]; exact hc i (by omega)
    exact ⟨b, off, fun _ => ⟨rfl, lt_of_cell (hcs 0 hp)⟩, hcs⟩
  · exact ⟨0, 0, fun h => absurd h hp, fun i hi => absurd hi (by omega)⟩

theorem row_nil (w : World) (val : Nat → Value) : Row w none 0 val := ⟨by omega, 0, 0, fun h => absurd h (by omega), fun i hi => absurd hi (by omega)⟩

theorem walk (a0 a1 : Option Addr) (len0 cap0 len1 cap1 : Nat) (z : Nat → Int) (ks : Nat → ByteArray) (w : World) (hz : ∀ i, 0 ≤ z i ∧ z i ≤ 255) (r0 : Row w a0 len0 fun i => .int .u8 (z i)) (r1 : Row w a1 len1 fun i => .string (ks i)) :
    Calls Yba.prog 3 #[.slice a0 len0 cap0, .slice a1 len1 cap1] w fun e w' => e = .returned (.bool true) ∧ Below w.heap.size w w' := by
  obtain ⟨hl0, b0, o0, hat0, hc0⟩ := r0
  obtain ⟨hl1, b1, o1, hat1, hc1⟩ := r1
  by_cases hlen : (65536 : Int) < (len0 : Int)
  · exact big a0 a1 len0 cap0 len1 cap1 w hl0 hlen
  · exact core a0 a1 len0 cap0 len1 cap1 b0 o0 b1 o1 z ks w (by omega) (by omega) hat0 hc0 hz hat1 hc1

set_option maxRecDepth 100000 in
theorem lifted (os : Os) (started : os.Started) (H : Type) (enc : TypeId × Value → H) :
    ReturnsInHanded {} Yba.checked os 3 .any (Rows.lawS8264AWholeSpec.pre6 enc Yba.prog Yba.f3 Rows.lawS8264AWholeRow.domain false) (Rows.lawS8264AWholeSpec.post enc Yba.prog Yba.f3 false true false false) := by
  refine returnsInHanded_of_change (C := Yba.checked) own started (by kernel_rfl) Yba.func3
    (ChangeSpec.witness6 (enc := enc) (C := Yba.checked) false ⟨#[], #[.slice none 0 0, .slice none 0 0], []⟩ 8 (by kernel_rfl) (by kernel_rfl) (by kernel_rfl) (by kernel_rfl)) ?_
  intro W base args ds gs before hval0 hW hcnd _
  have hval : ∀ (j : Nat) t v, Yba.f3.params[j]? = some t → args[j]? = some v → Value.okWide Yba.prog W .any base t v := hval0
  have hW' := hW
  obtain ⟨p, q, hA0, hV, rfl, hfz, hnd⟩ := hW
  have hA : DataW.TrodAll enc Yba.prog W 0 (fun _ => true) true Yba.f3.params.toList args.toList ds p := hA0
  rw [Yba.params3] at hA hval
  obtain ⟨v0, vs0, d0, ds0, p0, q0, hargs, rfl, rfl, h0, r0⟩ := trodAll_cons hA
  obtain ⟨v1, vs1, d1, ds1, p1, q1, rfl, rfl, rfl, h1, r1⟩ := trodAll_cons r0
  obtain ⟨rfl, rfl, rfl⟩ := trodAll_nil r1
  obtain rfl : args = #[v0, v1] := by cases args; simp_all
  obtain ⟨rfl, rfl⟩ := trodVars_none hV
  obtain ⟨a0, len0, cap0, rfl⟩ := okWide_slice Yba.underlying22 (hval 0 22 v0 rfl rfl)
  have k0 := h0
  have lt0 : ∀ x ∈ p0, x.block < W.heap.size := by obtain ⟨m, hm⟩ := k0; exact DataW.trod_lt m _ _ _ hm
  obtain ⟨z, hz, w0⟩ : ∃ z : Nat → Int, (∀ i, 0 ≤ z i ∧ z i ≤ 255) ∧ Row W a0 len0 fun i => .int .u8 (z i) := by
    obtain ⟨fuel, hf⟩ := h0
    rcases open_ints Yba.underlying22 Yba.underlying5 (by kernel_rfl) hf with ⟨hcs, _⟩ | ⟨x, l, c, zs, hcs, _, hl, hm, hz, _, hcell, hwz⟩
    · simp [Value.cells] at hcs
      obtain ⟨rfl, rfl, rfl⟩ := hcs
      exact ⟨fun _ => 0, fun _ => by simp, row_nil _ _⟩
    · simp [Value.cells] at hcs
      obtain ⟨rfl, rfl, rfl⟩ := hcs
      exact ⟨fun i => zs.getD i 0, fun i => by simpa only [List.getD_eq_getElem?_getD] using range_u8 hwz i, row_of hl hm (by simpa using hz) hcell⟩
  obtain ⟨a1, len1, cap1, rfl⟩ := okWide_slice Yba.underlying23 (hval 1 23 v1 rfl rfl)
  have k1 := h1
  have lt1 : ∀ x ∈ p1, x.block < W.heap.size := by obtain ⟨m, hm⟩ := k1; exact DataW.trod_lt m _ _ _ hm
  obtain ⟨ks, w1⟩ : ∃ ks : Nat → ByteArray, Row W a1 len1 fun i => .string (ks i) := by
    obtain ⟨fuel, hf⟩ := h1
    rcases open_strings Yba.underlying23 Yba.underlying9 (by kernel_rfl) hf with ⟨hcs, _⟩ | ⟨x, l, c, ss, hcs, _, hl, hm, hz, _, hcell, hws⟩
    · simp [Value.cells] at hcs
      obtain ⟨rfl, rfl, rfl⟩ := hcs
      exact ⟨fun _ => ByteArray.empty, row_nil _ _⟩
    · simp [Value.cells] at hcs
      obtain ⟨rfl, rfl, rfl⟩ := hcs
      exact ⟨fun i => ss.getD i ByteArray.empty, row_of hl hm (by simpa using hz) hcell⟩
  clear hA0 hval0
  refine (walk a0 a1 len0 cap0 len1 cap1 z ks W hz w0 w1).mono fun e W' ⟨he, bel⟩ => ?_
  subst he
  exact ⟨_, rfl, _, _, _, [], _, [], hW', trodAll_mk1 (shut_bool Yba.underlying4 _), (trodAll_cons_mk (Below.trod laidOut (by kernel_rfl) (of_decide_eq_true (by kernel_rfl)) k0 bel lt0) (trodAll_cons_mk (Below.trod laidOut (by kernel_rfl) (of_decide_eq_true (by kernel_rfl)) k1 bel lt1) trodAll_mk0)), rfl, bel.frame _, fun h => by cases h⟩

theorem over : Rows.lawS8264AWholeRow.holds Yba.pinned (OpenSpec.ofChange Rows.lawS8264AWholeSpec) :=
  OpenClaim.holds_of_wide 3 Yba.f3 rfl rfl rfl rfl rfl rfl rfl ⟨rfl, rfl, rfl, rfl, rfl⟩ rfl rfl rfl rfl rfl (by kernel_rfl) Yba.func3 (by kernel_rfl)
    (of_decide_eq_true (by kernel_rfl)) (by unfold Func.isWrapper; first | (rw [if_pos (by decide +kernel)]; kernel_rfl) | (rw [if_neg (by decide +kernel)]; exact ⟨rfl, rfl⟩))
    (fun os started H enc _ => lifted os started H enc)

/-- The statement. -/
theorem proved : Rows.LawS8264AWholeSaid := over
end Go.Proofs.Ybulkfocw.lawS8264AWhole
