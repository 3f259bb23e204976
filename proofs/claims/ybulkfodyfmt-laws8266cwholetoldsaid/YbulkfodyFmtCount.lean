import Derived.Test.YbulkfodyFmtRows
import Derived.WalkKit
import Derived.WalkLawsBesides
import Derived.WalkSpells
import Derived.Outline
import Derived.Stop.CallBack
import Derived.Stop.IfaceNil
namespace Go.Proofs.YbulkfodyFmt
open Go.RowKit Go.Extern.Stop Go.Stop Go.Extern

/-! ### closed facts for the walk over fmt's stopped front -/
theorem Ybaf.call22 (args : Array Value) (w : World) : (callFunc 22 args).run Ybaf.prog w = ((FmtStop.errorf #[9, 53] #[50] args).run Ybaf.prog w).andThen fun v w' => .ok (.value v) w' :=
  run_callFunc_extern Ybaf.func22 (by kernel_rfl) (by kernel_rfl) (by kernel_rfl) (by kernel_rfl) args w
theorem Ybaf.guard (name : String) (w : World) : (FmtStop.guard name).run Ybaf.prog w = .ok () w := by kernel_rfl
theorem Ybaf.fmt0 : FmtStop.printed? ⟨#[116, 104, 101, 32, 100, 101, 99, 105, 115, 105, 111, 110, 39, 115, 32, 102, 117, 110, 99, 116, 105, 111, 110, 115, 32, 109, 97, 100, 101, 32, 109, 111, 114, 101, 32, 116, 104, 97, 110, 32, 116, 104, 101, 32, 37, 100, 32, 98, 121, 116, 101, 115, 32, 111, 102, 32, 118, 97, 108, 117, 101, 115, 32, 116, 104, 105, 115, 32, 101, 110, 103, 105, 110, 101, 32, 109, 97, 107, 101, 115, 32, 105, 110, 32, 111, 110, 101]⟩ 1 = some [(0, 100, false)] := by kernel_rfl
theorem Ybaf.fmt0r (w : World) : (FmtDoors.printed ⟨#[116, 104, 101, 32, 100, 101, 99, 105, 115, 105, 111, 110, 39, 115, 32, 102, 117, 110, 99, 116, 105, 111, 110, 115, 32, 109, 97, 100, 101, 32, 109, 111, 114, 101, 32, 116, 104, 97, 110, 32, 116, 104, 101, 32, 37, 100, 32, 98, 121, 116, 101, 115, 32, 111, 102, 32, 118, 97, 108, 117, 101, 115, 32, 116, 104, 105, 115, 32, 101, 110, 103, 105, 110, 101, 32, 109, 97, 107, 101, 115, 32, 105, 110, 32, 111, 110, 101]⟩ 1).run Ybaf.prog w = .ok [(0, 100, false)] w := by kernel_rfl
theorem Ybaf.name3 : Ybaf.prog.typeName? 3 3 = some "int" := by kernel_rfl
def Ybaf.shape3 : List UInt8 := [5, 3, 0, 0, 0, 0, 0, 0, 0, 105, 110, 116]
theorem Ybaf.op3_100 (name : String) (x : Int) (w : World) : (FmtStop.operand name false 100 false (.iface 3 (.int .i64 x))).run Ybaf.prog w = .ok (Ybaf.shape3, Go.Extern.Stop.digits 8 (x % 2 ^ 64).toNat) w := by kernel_rfl
theorem Ybaf.op3_100w (name : String) (x : Int) (w : World) : (FmtStop.operand name true 100 false (.iface 3 (.int .i64 x))).run Ybaf.prog w = .ok (Ybaf.shape3, Go.Extern.Stop.digits 8 (x % 2 ^ 64).toNat) w := by kernel_rfl
theorem Ybaf.strict3 (name : String) (x : Int) (w : World) : (FmtStop.strict name (.iface 3 (.int .i64 x))).run Ybaf.prog w = .ok (Ybaf.shape3, Go.Extern.Stop.digits 8 (x % 2 ^ 64).toNat) w := by kernel_rfl
theorem Ybaf.ptr108 (w : World) : (FmtStop.ptrTo "errors.errorString").run Ybaf.prog w = .ok 108 w := by kernel_rfl
theorem Ybaf.elem108 (w : World) : (elemOf 108).run Ybaf.prog w = .ok 110 w := by kernel_rfl
theorem Ybaf.isError108 (w : World) : (FmtDoors.textMethod 108 "Error").run Ybaf.prog w = .ok true w := by kernel_rfl

set_option maxRecDepth 100000 in
set_option maxHeartbeats 1000000 in
theorem errorf_any (F : Interp) (w : World) (hF : F.answers w.tape) (g : Nat) (hc : w.cell? ⟨g, 0, none⟩ = some (.iface 3 (.int .i64 67108864))) :
    Calls Ybaf.prog 14 #[.string ⟨#[116, 104, 101, 32, 100, 101, 99, 105, 115, 105, 111, 110, 39, 115, 32, 102, 117, 110, 99, 116, 105, 111, 110, 115, 32, 109, 97, 100, 101, 32, 109, 111, 114, 101, 32, 116, 104, 97, 110, 32, 116, 104, 101, 32, 37, 100, 32, 98, 121, 116, 101, 115, 32, 111, 102, 32, 118, 97, 108, 117, 101, 115, 32, 116, 104, 105, 115, 32, 101, 110, 103, 105, 110, 101, 32, 109, 97, 107, 101, 115, 32, 105, 110, 32, 111, 110, 101]⟩, .slice (some ⟨g, 0, none⟩) 1 1] w fun e w' => (∃ p, e = .returned (.iface 108 (.pointer p))) ∧ Below w.heap.size w w' := by
  have hF' : ∀ i name reading k range, w.tape i (.extern (word name reading k) range) = F name reading k := hF
  have f1 := Ybaf.call22
  have f2 := Ybaf.guard
  have f3 := Ybaf.fmt0
  have f4 := Ybaf.fmt0r
  have f5 := Ybaf.op3_100
  have f6 := Ybaf.op3_100w
  have f7 := Ybaf.strict3
  have f8 := Ybaf.ptr108
  have f9 := Ybaf.elem108
  have f10 := Ybaf.isError108
  go_enter Ybaf.func14, Ybaf.ntmps14
  go_wp2
  go_ret
  exact ⟨⟨_, rfl⟩, ((Below.refl _ _).alloc (Nat.le_refl _) _).drew⟩

set_option maxRecDepth 100000 in
set_option maxHeartbeats 1000000 in
/-- 'e.count(n)': within the bound. -/
theorem count_in (Eb : Nat) (a n : Int) (w : World) (c : w.cell? ⟨Eb, 6, none⟩ = some (.int .i64 a)) (f : w.frozen? ⟨Eb, 6, none⟩ = false) (h : ¬ (67108864 : Int) < wrap64 (a + n)) :
    Calls Ybaf.prog 9 #[.pointer (some ⟨Eb, 0, none⟩), .int .i64 n] w fun e w' => e = .returned .nilIface ∧ Below w.heap.size (w.setCell ⟨Eb, 6, none⟩ (.int .i64 (wrap64 (a + n)))) w' := by
  go_enter Ybaf.func9, Ybaf.ntmps9
  go_wp2
  go_region
  go_wp2
  go_ret
  exact ⟨rfl, (Below.refl _ _).drew⟩

set_option maxRecDepth 100000 in
set_option maxHeartbeats 1000000 in
/-- 'e.count(n)': beyond the bound: an error. -/
theorem count_out (F : Interp) (Eb : Nat) (a n : Int) (w : World) (hF : F.answers w.tape) (c : w.cell? ⟨Eb, 6, none⟩ = some (.int .i64 a)) (f : w.frozen? ⟨Eb, 6, none⟩ = false) (h : (67108864 : Int) < wrap64 (a + n)) :
    Calls Ybaf.prog 9 #[.pointer (some ⟨Eb, 0, none⟩), .int .i64 n] w fun e w' => (∃ p, e = .returned (.iface 108 (.pointer p))) ∧ Below w.heap.size (w.setCell ⟨Eb, 6, none⟩ (.int .i64 (wrap64 (a + n)))) w' := by
  go_enter Ybaf.func9, Ybaf.ntmps9
  go_wp2
  go_region
  go_wp2_with fail
  refine (errorf_any F _ (by exact hF) w.heap.size (by go_simp)).mono ?_
  rintro e w1 ⟨⟨p, rfl⟩, hb⟩
  go_wp2
  go_ret
  exact ⟨⟨p, rfl⟩, (((Below.refl _ _).alloc (by simp [World.setCell]) _).drew).trans (hb.mono (by simp [World.setCell]))⟩

/-- 'e.count(n)': both ways. -/
theorem count_any (F : Interp) (Eb : Nat) (a n : Int) (w : World) (hF : F.answers w.tape) (c : w.cell? ⟨Eb, 6, none⟩ = some (.int .i64 a)) (f : w.frozen? ⟨Eb, 6, none⟩ = false) :
    Calls Ybaf.prog 9 #[.pointer (some ⟨Eb, 0, none⟩), .int .i64 n] w fun e w' =>
      (∃ v, e = .returned v ∧ ((v = .nilIface ∧ ¬ (67108864 : Int) < wrap64 (a + n)) ∨ (∃ p, v = .iface 108 (.pointer p) ∧ (67108864 : Int) < wrap64 (a + n)))) ∧ Below w.heap.size (w.setCell ⟨Eb, 6, none⟩ (.int .i64 (wrap64 (a + n)))) w' := by
  by_cases h : (67108864 : Int) < wrap64 (a + n)
  · refine (count_out F Eb a n w hF c f h).mono ?_
    rintro e w' ⟨⟨p, rfl⟩, hb⟩
    exact ⟨⟨_, rfl, Or.inr ⟨p, rfl, h⟩⟩, hb⟩
  · refine (count_in Eb a n w c f h).mono ?_
    rintro e w' ⟨rfl, hb⟩
    exact ⟨⟨_, rfl, Or.inl ⟨rfl, h⟩⟩, hb⟩
end Go.Proofs.YbulkfodyFmt
