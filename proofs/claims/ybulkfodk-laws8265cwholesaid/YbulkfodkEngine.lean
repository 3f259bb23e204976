import Derived.Test.YbulkfodkCopy
import Derived.WideMake
namespace Go.Proofs.Ybulkfodk
open Go.RowKit

/-! ### a map of one string -/
theorem look_one {w : World} {M : Nat} (s : ByteArray) (v : Value) (h : w.heap[M]? = some (.map #[⟨.string s, v, 0⟩] 1)) : (Instr.lookup 44 (.map (some M)) (.string s) false).run Yba.prog w = .ok v w := by
  obtain ⟨r, hr, hiff⟩ := MapKept.sameNow_of_keys (d := .string) (a := .string s) (b := .string s) (by simp [MapKept.IsKey]) (by simp [MapKept.IsKey])
  obtain rfl : r = true := hiff.2 rfl
  have hf : Instr.findNow .string (.string s) [(⟨.string s, v, 0⟩ : MapEntry)] 0 = some (some (0, v)) := by simp [Instr.findNow, hr]
  have hc : ∀ b, (Instr.checkKey b 10000 9 (.string s)).run Yba.prog w = .ok () w := fun b => MapKept.run_checkKey (k := .string s) Yba.underlying9 (by simp [MapKept.IsKey]) b 9999
  simp [Instr.lookup, run_underlying Yba.underlying44, MapKept.run_getObj_map h, hc, MapKept.run_findKey Yba.underlying9 hf, Result.andThen]
theorem upd_one (w : World) (s : ByteArray) (v : Value) : (Instr.mapUpdate 44 (.map (some w.heap.size)) (.string s) v).run Yba.prog (w.alloc (.map #[] 0)) = .ok () (w.alloc (.map #[⟨.string s, v, 0⟩] 1)) := by
  rw [run_mapUpdate_first _ 44 9 22 w.heap.size 0 s v Yba.underlying44 Yba.underlying9 (MapKept.heap_alloc w _).1]
  have e : ((w.alloc (.map #[] 0)).heap.setIfInBounds w.heap.size (.map #[⟨.string s, v, 0⟩] 1)) = w.heap.push (.map #[⟨.string s, v, 0⟩] 1) := by
    show (w.heap.push _).setIfInBounds _ _ = _
    apply Array.ext_getElem?
    intro i
    rw [Array.getElem?_setIfInBounds, Array.getElem?_push, Array.getElem?_push]
    by_cases h : w.heap.size = i
    · subst h; simp
    · rw [if_neg h, if_neg (fun e => h e.symm), if_neg (fun e => h e.symm)]
  rw [e]
  rfl

set_option maxHeartbeats 400000 in
/-- 'refuse(reason)'. -/
theorem refuse_any (r : ByteArray) (w : World) :
    Calls Yba.prog 10 #[.string r] w fun e w' => e = .returned (.iface 72 (.pointer (some ⟨w.heap.size, 0, none⟩))) ∧ w' = w.alloc (.cells #[.string r] 75) := by
  go_enter Yba.func10, Yba.ntmps10
  go_wp2
  go_ret
  exact ⟨rfl, rfl⟩

set_option maxHeartbeats 400000 in
/-- 'e.hasRole(id, role)' at a map whose one key is id. -/
theorem hasRole_any (Eb M L : Nat) (y x : ByteArray) (ra : Option Addr) (rn rc : Nat) (rs : Nat → ByteArray) (w : World) (hn : (rn : Int) ≤ 9223372036854775806) (c17 : w.cell? ⟨Eb, 17, none⟩ = some (.map (some M)))
    (hm : w.heap[M]? = some (.map #[⟨.string y, .slice ra rn rc, 0⟩] 1)) (hr : Hid (Row w L ra rn rs)) :
    Calls Yba.prog 9 #[.pointer (some ⟨Eb, 0, none⟩), .string y, .string x] w fun e w' => e = .returned (.bool (hasB rs rn x)) ∧ w' = w := by
  have hl := look_one y _ hm
  clear hm
  go_enter Yba.func9, Yba.ntmps9
  go_wp2_with fail
  refine (contains_any ra rn rc L rs x _ hn hr).mono ?_
  rintro e w' ⟨rfl, rfl⟩
  go_wp2
  go_ret
  exact ⟨rfl, rfl⟩

set_option maxHeartbeats 400000 in
/-- 'e.withdrawal(id)', id out of range. -/
theorem withdrawal_out (Eb WB n : Nat) (id : Int) (w : World) (_hn : (n : Int) ≤ 9223372036854775806) (c25 : w.cell? ⟨Eb, 25, none⟩ = some (.slice (some ⟨WB, 0, none⟩) n n)) (ho : id < 1 ∨ (n : Int) < id) :
    Calls Yba.prog 11 #[.pointer (some ⟨Eb, 0, none⟩), .int .i64 id] w fun e w' => e = .returned (.pointer none) ∧ w' = w := by
  by_cases h : id < 1
  · clear ho
    go_enter Yba.func11, Yba.ntmps11
    go_wp2
    go_ret
    exact ⟨rfl, rfl⟩
  · have h2 : (n : Int) < id := by omega
    clear ho
    go_enter Yba.func11, Yba.ntmps11
    go_wp2
    go_ret
    exact ⟨rfl, rfl⟩

set_option maxHeartbeats 400000 in
/-- 'e.withdrawal(id)', id within. -/
theorem withdrawal_in (Eb WB n k : Nat) (v : Option Addr) (w : World) (hn : (n : Int) ≤ 9223372036854775806) (c25 : w.cell? ⟨Eb, 25, none⟩ = some (.slice (some ⟨WB, 0, none⟩) n n)) (hk : k < n) (hv : w.cell? ⟨WB, k, none⟩ = some (.pointer v)) :
    Calls Yba.prog 11 #[.pointer (some ⟨Eb, 0, none⟩), .int .i64 ((k : Int) + 1)] w fun e w' => e = .returned (.pointer v) ∧ w' = w := by
  have h1 : (k : Int) < (n : Int) := by omega
  have h0 : (0 : Int) ≤ (k : Int) := by omega
  have h2 : ¬ (k : Int) + 1 < 1 := by omega
  have h3 : ¬ (n : Int) < (k : Int) + 1 := by omega
  go_enter Yba.func11, Yba.ntmps11
  go_wp2
  go_ret
  exact ⟨rfl, rfl⟩

/-! ### 'l.checkOpen()' -/
set_option maxHeartbeats 400000 in
theorem open_exec (Wk : Nat) (en : ByteArray) (w : World) (c : w.cell? ⟨Wk, 15, none⟩ = some (.string en)) (h : (en.toList == [101, 120, 101, 99, 117, 116, 101, 100]) = true) :
    Calls Yba.prog 13 #[.pointer (some ⟨Wk, 12, none⟩)] w fun e w' => e = .returned (.iface 72 (.pointer (some ⟨w.heap.size, 0, none⟩))) ∧ w' = w.alloc (.cells #[.string ⟨#[97, 108, 114, 101, 97, 100, 121, 95, 101, 120, 101, 99, 117, 116, 101, 100]⟩] 75) := by
  go_enter Yba.func13, Yba.ntmps13
  go_wp2_with fail
  refine (refuse_any _ _).mono ?_
  rintro e w' ⟨rfl, rfl⟩
  go_wp2
  go_ret
  exact ⟨rfl, rfl⟩
set_option maxHeartbeats 400000 in
theorem open_canc (Wk : Nat) (en : ByteArray) (w : World) (c : w.cell? ⟨Wk, 15, none⟩ = some (.string en)) (h : (en.toList == [101, 120, 101, 99, 117, 116, 101, 100]) = false) (h2 : (en.toList == [99, 97, 110, 99, 101, 108, 108, 101, 100]) = true) :
    Calls Yba.prog 13 #[.pointer (some ⟨Wk, 12, none⟩)] w fun e w' => e = .returned (.iface 72 (.pointer (some ⟨w.heap.size, 0, none⟩))) ∧ w' = w.alloc (.cells #[.string ⟨#[99, 97, 110, 99, 101, 108, 108, 101, 100]⟩] 75) := by
  go_enter Yba.func13, Yba.ntmps13
  go_wp2_with fail
  refine (refuse_any _ _).mono ?_
  rintro e w' ⟨rfl, rfl⟩
  go_wp2
  go_ret
  exact ⟨rfl, rfl⟩
set_option maxHeartbeats 400000 in
theorem open_open (Wk : Nat) (en : ByteArray) (w : World) (c : w.cell? ⟨Wk, 15, none⟩ = some (.string en)) (h : (en.toList == [101, 120, 101, 99, 117, 116, 101, 100]) = false) (h2 : (en.toList == [99, 97, 110, 99, 101, 108, 108, 101, 100]) = false) :
    Calls Yba.prog 13 #[.pointer (some ⟨Wk, 12, none⟩)] w fun e w' => e = .returned .nilIface ∧ w' = w := by
  go_enter Yba.func13, Yba.ntmps13
  go_wp2
  go_ret
  exact ⟨rfl, rfl⟩
end Go.Proofs.Ybulkfodk
