/-
  The proof of 'Rows.LawS8265CWholeSaid'. The frame is the guide's way for a law, at a string, an integer, a slice of strings, a bool and a slice of structs; the walk: YbulkfodkWalk ('core'); the arguments are opened in YbulkfodkOpen.
-/
import Derived.Test.YbulkfodkRows
import Derived.WalkKit
import Derived.ProofKit
import Derived.OpenShut
import Derived.ShutString
import Derived.ChangeOld
import Derived.Below
import Derived.Test.YbulkfodkWalk
import Derived.Test.YbulkfodkOpen
namespace Go.Proofs.Ybulkfodk.lawS8265CWhole
open Go.ChangeShapes Go.WideShapes Go.ChangeAt Go.RowKit Go.Deep
open Go.ChangeMaps (open_string shut_string)
set_option linter.unusedVariables false

theorem own : ownKnob Yba.prog.godebug = none := by kernel_rfl
theorem laidOut : laidOutB Yba.prog = true := by kernel_rfl
theorem cells25 : Yba.prog.cellsOf 25 = 6 := by kernel_rfl
theorem bytes25 : Yba.prog.bytesOf 25 = 72 := by kernel_rfl
theorem reach_eq : reachBytes = 140737488351232 := rfl

set_option maxRecDepth 100000 in
theorem lifted (os : Os) (started : os.Started) (H : Type) (enc : TypeId × Value → H) :
    ReturnsInHanded {} Yba.checked os 3 .any (Rows.lawS8265CWholeSpec.pre6 enc Yba.prog Yba.f3 Rows.lawS8265CWholeRow.domain false) (Rows.lawS8265CWholeSpec.post enc Yba.prog Yba.f3 false true false false) := by
  refine returnsInHanded_of_change_sized (C := Yba.checked) own started (by kernel_rfl) Yba.func3
    (ChangeSpec.witness6 (enc := enc) (C := Yba.checked) false ⟨#[], #[.string ByteArray.empty, .int .i64 0, .slice none 0 0, .bool false, .slice none 0 0], []⟩ 8 (by kernel_rfl) (by kernel_rfl) (by kernel_rfl) (by kernel_rfl)) ?_
  intro W base args ds gs before hval0 hW hcnd hsz0 _
  have hsz : (DataW.weightsEach Yba.prog (Yba.f3.params.toList ++ Rows.lawS8265CWholeSpec.plain.varTypes Yba.prog) (ds ++ gs)).all (· ≤ reachBytes) = true := hsz0
  have hval : ∀ (j : Nat) t v, Yba.f3.params[j]? = some t → args[j]? = some v → Value.okWide Yba.prog W .any base t v := hval0
  have hW' := hW
  obtain ⟨p, q, hA0, hV, rfl, hfz, hnd⟩ := hW
  have hA : DataW.TrodAll enc Yba.prog W 0 (fun _ => true) true Yba.f3.params.toList args.toList ds p := hA0
  rw [Yba.params3] at hA hval hsz
  obtain ⟨v0, vs0, d0, ds0, p0, q0, hargs, rfl, rfl, h0, r0⟩ := trodAll_cons hA
  obtain ⟨v1, vs1, d1, ds1, p1, q1, rfl, rfl, rfl, h1, r1⟩ := trodAll_cons r0
  obtain ⟨v2, vs2, d2, ds2, p2, q2, rfl, rfl, rfl, h2, r2⟩ := trodAll_cons r1
  obtain ⟨v3, vs3, d3, ds3, p3, q3, rfl, rfl, rfl, h3, r3⟩ := trodAll_cons r2
  obtain ⟨v4, vs4, d4, ds4, p4, q4, rfl, rfl, rfl, h4, r4⟩ := trodAll_cons r3
  obtain ⟨rfl, rfl, rfl⟩ := trodAll_nil r4
  obtain rfl : args = #[v0, v1, v2, v3, v4] := by cases args; simp_all
  obtain ⟨rfl, rfl⟩ := trodVars_none hV
  obtain ⟨y, rfl, rfl, rfl, w0⟩ := open_string Yba.underlying9 (hval 0 9 v0 rfl rfl) h0
  obtain ⟨id, rfl, rfl, rfl, w1⟩ := open_int Yba.underlying2 (hval 1 2 v1 rfl rfl) h1
  obtain ⟨g, rfl, rfl, rfl⟩ := open_bool Yba.underlying4 (hval 3 4 v3 rfl rfl) h3
  obtain ⟨ra, rm, rc, rfl⟩ := okWide_slice Yba.underlying22 (hval 2 22 v2 rfl rfl)
  have k2 := h2
  have lt2 : ∀ x ∈ p2, x.block < W.heap.size := by obtain ⟨m, hm⟩ := k2; exact DataW.trod_lt m _ _ _ hm
  obtain ⟨rs, hR, hRx, hRb⟩ : ∃ rs, Row W 0 ra rm rs ∧ rs rm = ⟨#[103, 117, 97, 114, 100, 105, 97, 110]⟩ ∧ rm ≤ 8796093022000 := by
    obtain ⟨fuel, hf⟩ := h2
    obtain ⟨a, n, c, s, hv, hr, hx, hw⟩ := open_row ⟨#[103, 117, 97, 114, 100, 105, 97, 110]⟩ (by simpa [Value.cells] using hf)
    simp only [Value.slice.injEq] at hv
    obtain ⟨rfl, rfl, rfl⟩ := hv
    refine ⟨s, hr, hx, ?_⟩
    rcases hw with h | ⟨m, hm, hle⟩
    · omega
    · have := of_decide_eq_true (List.all_eq_true.1 hsz _ (DataW.weights_mem_each (j := 2) (t := 22) rfl rfl m hm))
      rw [reach_eq] at this
      omega
  obtain ⟨aw, n, cw, rfl⟩ := okWide_slice Yba.underlying23 (hval 4 23 v4 rfl rfl)
  have k4 := h4
  have lt4 : ∀ x ∈ p4, x.block < W.heap.size := by obtain ⟨m, hm⟩ := k4; exact DataW.trod_lt m _ _ _ hm
  obtain ⟨bw, ow, f, hn, haw, hI⟩ : ∃ (bw ow : Nat) (f : Nat → Dsc), n ≤ 1954687338268 ∧ (0 < n → aw = some ⟨bw, ow, none⟩) ∧
      Ins W n bw ow y (fun i => (f i).nl) (fun i => (f i).ia) (fun i => (f i).im) (fun i => (f i).ic) (fun i => (f i).sg) (fun i => (f i).ab) (fun i => (f i).ek) (fun i => (f i).ja) (fun i => (f i).jm) (fun i => (f i).jc) (fun i => (f i).ap) (fun i => (f i).pb) := by
    obtain ⟨fuel, hf⟩ := h4
    have hid : Dsc := ⟨false, none, 0, 0, fun _ => y, false, 0, none, 0, 0, fun _ => y, false⟩
    have vac : ∀ (P : Nat → Prop), ∀ i, i < 0 → P i := fun P i hi => absurd hi (by omega)
    rcases open_slice Yba.underlying23 (by simpa [Value.cells] using hf) with ⟨hcs, _⟩ | ⟨a, len, cap, m, nf, D, Pl, hcs, -, hl, hm, hmm, hx, hel⟩
    · simp only [List.cons.injEq, Value.slice.injEq, and_true] at hcs
      obtain ⟨rfl, rfl, rfl⟩ := hcs
      exact ⟨0, 0, fun _ => hid, by omega, fun h => absurd h (by omega), ⟨fun h => absurd h (by omega), vac _, vac _, vac _, vac _, vac _, vac _, vac _, vac _, vac _, vac _, vac _, vac _, vac _⟩⟩
    · simp only [List.cons.injEq, Value.slice.injEq, and_true] at hcs
      obtain ⟨rfl, rfl, rfl⟩ := hcs
      simp only [if_true] at hmm
      subst hmm
      simp only [Prod.mk.injEq] at hx
      obtain ⟨hd, -⟩ := hx
      subst hd
      rw [cells25] at hel
      haveI : Inhabited Dsc := ⟨hid⟩
      obtain ⟨f, hF⟩ := choose_lt (α := Dsc) (n := m) (p := fun i d => At W y (a.add (i * 6)) (D i) d) (fun i hi => by
        obtain ⟨cs', hc, ht⟩ := hel i hi
        exact open_elem y hc ht)
      have hlen : n ≤ 1954687338268 := by
        have := sized_slice hsz (j := 4) (t := 23) (e := 25) rfl rfl Yba.underlying23
        rw [bytes25, reach_eq] at this
        simp only [List.length_map, List.length_range] at this
        omega
      have bound : ∀ i, i < n → ∀ q, (q = 0 ∨ ∃ k ∈ (D i).weights Yba.prog 25, q * 16 ≤ k) → q ≤ 8796093022000 := fun i hi q hq => by
        rcases hq with h | ⟨k, hk, hle⟩
        · omega
        · have hmem : k ∈ (DataW.slice ((List.range n).map D) ((List.range (m - n)).map fun j => D (n + j))).weights Yba.prog 23 := by
            simp only [DataW.weights, Yba.underlying23, List.mem_cons, List.mem_append]
            exact Or.inr (Or.inl (weightsAll_mem (List.mem_map.2 ⟨i, List.mem_range.2 hi, rfl⟩) hk))
          have := of_decide_eq_true (List.all_eq_true.1 hsz _ (DataW.weights_mem_each (j := 4) (t := 23) rfl rfl k hmem))
          rw [reach_eq] at this
          omega
      by_cases hp : 0 < n
      · obtain ⟨bw, ow, spot⟩ := a
        have hspot : spot = none := by
          have h00 := (hF 0 (by omega)).1
          simpa [Addr.add] using World.cell?_spot h00
        subst hspot
        have ad : ∀ i j, ((⟨bw, ow, none⟩ : Addr).add (i * 6)).add j = ⟨bw, ow + i * 6 + j, none⟩ := fun i j => by rw [Go.WideShapes.add_plain, Go.WideShapes.add_plain]
        refine ⟨bw, ow, f, hlen, fun _ => rfl, ?_⟩
        have F : ∀ i, i < n → At W y ((⟨bw, ow, none⟩ : Addr).add (i * 6)) (D i) (f i) := fun i hi => hF i (by omega)
        refine ⟨fun _ => ?_, fun i hi => ?_, fun i hi => ?_, fun i hi => ?_, fun i hi => ?_, fun i hi => ?_, fun i hi => ?_, fun i hi => (F i hi).2.2.2.2.2.2.1, fun i hi => (F i hi).2.2.2.2.2.2.2.1, fun i hi => bound i hi _ (F i hi).2.2.2.2.2.2.2.2.2.2.2.1, fun i hi => bound i hi _ (F i hi).2.2.2.2.2.2.2.2.2.2.2.2, fun i hi => (F i hi).2.2.2.2.2.2.2.2.2.2.1, fun i hi _ => (F i hi).2.2.2.2.2.2.2.2.1, fun i hi _ => (F i hi).2.2.2.2.2.2.2.2.2.1⟩
        · have h00 := (F 0 hp).1
          rw [ad] at h00
          exact lt_of_cell h00
        · have := (F i hi).1; rw [ad] at this; exact this
        · have := (F i hi).2.1; rw [ad] at this; exact this
        · have := (F i hi).2.2.1; rw [ad] at this; exact this
        · have := (F i hi).2.2.2.1; rw [ad] at this; exact this
        · have := (F i hi).2.2.2.2.1; rw [ad] at this; exact this
        · have := (F i hi).2.2.2.2.2.1; rw [ad] at this; exact this
      · obtain rfl : n = 0 := by omega
        exact ⟨0, 0, f, by omega, fun h => absurd h hp, ⟨fun h => absurd h hp, vac _, vac _, vac _, vac _, vac _, vac _, vac _, vac _, vac _, vac _, vac _, vac _, vac _⟩⟩
  clear hA0 hval0 hsz0
  have hid := bounds_i64 w1
  refine (core y id ra rm rc rs g aw n cw bw ow _ _ _ _ _ _ _ _ _ _ _ _ W hid.1 hid.2 (by omega) (by omega) hR (fun _ => hRx) haw hI).mono fun e W' ⟨he, bel⟩ => ?_
  subst he
  exact ⟨_, rfl, _, _, _, [], _, [], hW', trodAll_mk1 (shut_bool Yba.underlying4 _), (trodAll_cons_mk (shut_string Yba.underlying9 w0) (trodAll_cons_mk (shut_int Yba.underlying2 w1) (trodAll_cons_mk (Below.trod laidOut (by kernel_rfl) (of_decide_eq_true (by kernel_rfl)) k2 bel lt2) (trodAll_cons_mk (shut_bool Yba.underlying4 _) (trodAll_cons_mk (Below.trod laidOut (by kernel_rfl) (of_decide_eq_true (by kernel_rfl)) k4 bel lt4) trodAll_mk0))))), rfl, bel.frame _, fun h => by cases h⟩

theorem over : Rows.lawS8265CWholeRow.holds Yba.pinned (OpenSpec.ofChange Rows.lawS8265CWholeSpec) :=
  OpenClaim.holds_of_wide 3 Yba.f3 rfl rfl rfl rfl rfl rfl rfl ⟨rfl, rfl, rfl, rfl, rfl⟩ rfl rfl rfl rfl rfl (by kernel_rfl) Yba.func3 (by kernel_rfl)
    (of_decide_eq_true (by kernel_rfl)) (by unfold Func.isWrapper; first | (rw [if_pos (by decide +kernel)]; kernel_rfl) | (rw [if_neg (by decide +kernel)]; exact ⟨rfl, rfl⟩))
    (fun os started H enc _ => lifted os started H enc)

/-- The statement. -/
theorem proved : Rows.LawS8265CWholeSaid := over
end Go.Proofs.Ybulkfodk.lawS8265CWhole
