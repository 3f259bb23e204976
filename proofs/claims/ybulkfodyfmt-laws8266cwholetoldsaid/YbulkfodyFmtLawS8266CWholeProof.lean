/-
  The proof of 'Rows.LawS8266CWholeToldSaid'. The walk: YbulkfodyFmtWalk ('core'): at every answer of fmt: the law asks of the error only whether it is nil.
-/
import Derived.Test.YbulkfodyFmtWalk
import Derived.Test.YbulkfodyFmtCards
import Derived.ProofKit
import Derived.ChangeSame
import Derived.OpenShut
import Derived.Stop.JoinedAt
import Derived.Stop.JoinedTold
import Derived.SevenToldRow
namespace Go.Proofs.YbulkfodyFmt.lawS8266CWhole
open Go.ChangeShapes Go.WideShapes Go.ChangeAt Go.RowKit Go.Kit
open Go.Extern.Stop Go.Stop Go.Extern

theorem own : ownKnob Ybaf.prog.godebug = none := by kernel_rfl
theorem cells57 : Ybaf.prog.cellsOf 57 = 7 := by kernel_rfl
theorem cells3 : Ybaf.prog.cellsOf 3 = 1 := by kernel_rfl
theorem list7 {α : Type} (l : List α) (h : (⟨l⟩ : Array α).size = 7) : ∃ a b c d e f g, l = [a, b, c, d, e, f, g] := by
  match l, h with
  | [a, b, c, d, e, f, g], _ => exact ⟨a, b, c, d, e, f, g, rfl⟩

/-- Seven integers, read off an array's seven cells. -/
theorem seven {H : Type} {enc : TypeId × Value → H} {W : World} {base : Nat} {sp : Nat → Bool} {held : Bool} {fuel : Nat} {c0 c1 c2 c3 c4 c5 c6 : Value} {d : DataW H} {ps : List MemPlace}
    (h : DataW.trod enc Ybaf.prog W base sp held fuel 57 [c0, c1, c2, c3, c4, c5, c6] = some (d, ps)) :
    ∃ x0 x1 x2 x3 x4 x5 x6 : Int, (c0 = .int .i64 x0 ∧ c1 = .int .i64 x1 ∧ c2 = .int .i64 x2 ∧ c3 = .int .i64 x3 ∧ c4 = .int .i64 x4 ∧ c5 = .int .i64 x5 ∧ c6 = .int .i64 x6) ∧
      d = .agg [.lit (.int .i64 x0), .lit (.int .i64 x1), .lit (.int .i64 x2), .lit (.int .i64 x3), .lit (.int .i64 x4), .lit (.int .i64 x5), .lit (.int .i64 x6)] ∧ ps = [] ∧
      (Lit.int .i64 x0).wf = true ∧ (Lit.int .i64 x1).wf = true ∧ (Lit.int .i64 x2).wf = true ∧ (Lit.int .i64 x3).wf = true ∧ (Lit.int .i64 x4).wf = true ∧ (Lit.int .i64 x5).wf = true ∧ (Lit.int .i64 x6).wf = true := by
  obtain ⟨xs, m, _, hx, _, hl, hel⟩ := DataW.trod_array Ybaf.underlying57 h
  obtain ⟨y0, y1, y2, y3, y4, y5, y6, rfl⟩ := list7 xs hl
  rw [cells3] at hel
  have g0 := hel 0 (by omega)
  have g1 := hel 1 (by omega)
  have g2 := hel 2 (by omega)
  have g3 := hel 3 (by omega)
  have g4 := hel 4 (by omega)
  have g5 := hel 5 (by omega)
  have g6 := hel 6 (by omega)
  clear hel
  simp at g0 g1 g2 g3 g4 g5 g6
  obtain ⟨x0, e0, rfl, w0⟩ := DataW.trod_int Ybaf.underlying3 g0
  obtain ⟨x1, e1, rfl, w1⟩ := DataW.trod_int Ybaf.underlying3 g1
  obtain ⟨x2, e2, rfl, w2⟩ := DataW.trod_int Ybaf.underlying3 g2
  obtain ⟨x3, e3, rfl, w3⟩ := DataW.trod_int Ybaf.underlying3 g3
  obtain ⟨x4, e4, rfl, w4⟩ := DataW.trod_int Ybaf.underlying3 g4
  obtain ⟨x5, e5, rfl, w5⟩ := DataW.trod_int Ybaf.underlying3 g5
  obtain ⟨x6, e6, rfl, w6⟩ := DataW.trod_int Ybaf.underlying3 g6
  simp at e0 e1 e2 e3 e4 e5 e6 hx
  exact ⟨x0, x1, x2, x3, x4, x5, x6, ⟨e0, e1, e2, e3, e4, e5, e6⟩, hx.1, hx.2, w0, w1, w2, w3, w4, w5, w6⟩

set_option maxRecDepth 100000 in
theorem lifted (os : Os) (started : os.Started) (H : Type) (enc : TypeId × Value → H) :
    ReturnsInTold none {} Ybaf.checked os 4 .any Input.okWide ((OpenSpec.ofChange Rows.lawS8266CWholeSpec).preRow enc Ybaf.prog Ybaf.f4 Rows.lawS8266CWholeRow.domain false []) (fun F => ((OpenSpec.ofChange Rows.lawS8266CWholeSpec).at F).post enc Ybaf.prog Ybaf.f4 false true false false) (aloneAtReturn Ybaf.prog) nothingAlways := by
  refine returnsInTold_of_row (C := Ybaf.checked) (s := OpenSpec.ofChange Rows.lawS8266CWholeSpec) (by kernel_rfl) own started (by kernel_rfl) Ybaf.func4
    (OpenSpec.witness_stopped (enc := enc) (C := Ybaf.checked) false ⟨#[], #[.agg #[.int .i64 0, .int .i64 0, .int .i64 0, .int .i64 0, .int .i64 0, .int .i64 0, .int .i64 0], .int .i64 0, .bool false], []⟩ 8 (by kernel_rfl) (by kernel_rfl) (by kernel_rfl) (by kernel_rfl)) ?_
  intro F W base args ds gs before _ hF hval0 hW _ _ _ _ _
  have hval : ∀ (j : Nat) t v, Ybaf.f4.params[j]? = some t → args[j]? = some v → Value.okWide Ybaf.prog W .any base t v := hval0
  have hW' := hW
  obtain ⟨p, q, hA0, hV, rfl, _, _⟩ := hW
  have hA : DataW.TrodAll enc Ybaf.prog W 0 (fun _ => true) true Ybaf.f4.params.toList args.toList ds p := hA0
  rw [Ybaf.params4] at hA hval
  obtain ⟨v0, v1, v2, d0, d1, d2, p0, p1, p2, rfl, rfl, rfl, h0, h1, h2⟩ := trodAll_three hA
  obtain ⟨rfl, rfl⟩ := trodVars_none hV
  obtain ⟨cs, rfl, hsz, _⟩ : ∃ cs, v0 = .agg cs ∧ cs.size = Ybaf.prog.cellsOf 57 ∧ Row.okWide Ybaf.prog W .any base 57 cs := by
    have := hval 0 57 v0 rfl rfl
    simpa [Value.okWide, Ybaf.underlying57] using this
  rw [cells57] at hsz
  obtain ⟨l⟩ := cs
  obtain ⟨c0, c1, c2, c3, c4, c5, c6, rfl⟩ := list7 l hsz
  obtain ⟨fuel, hf⟩ := h0
  obtain ⟨x0, x1, x2, x3, x4, x5, x6, ⟨rfl, rfl, rfl, rfl, rfl, rfl, rfl⟩, rfl, rfl, w0, w1, w2, w3, w4, w5, w6⟩ := seven hf
  obtain ⟨n, rfl, rfl, rfl, wn⟩ := open_int Ybaf.underlying3 (hval 1 3 v1 rfl rfl) h1
  obtain ⟨near, rfl, rfl, rfl⟩ := open_bool Ybaf.underlying4 (hval 2 4 v2 rfl rfl) h2
  clear hA0 hval0
  simp only [List.append_nil] at hW'
  have arrayReads : ∀ (W' : World) (sp : Nat → Bool), DataW.Trod enc Ybaf.prog W' 0 sp true 57 (.agg #[.int .i64 x0, .int .i64 x1, .int .i64 x2, .int .i64 x3, .int .i64 x4, .int .i64 x5, .int .i64 x6])
      (.agg [.lit (.int .i64 x0), .lit (.int .i64 x1), .lit (.int .i64 x2), .lit (.int .i64 x3), .lit (.int .i64 x4), .lit (.int .i64 x5), .lit (.int .i64 x6)]) [] := fun W' sp =>
    ⟨2, by simp [DataW.trod, Value.cells, Ybaf.underlying57, Ybaf.underlying3, cells57, cells3, w0, w1, w2, w3, w4, w5, w6, show List.range 7 = [0, 1, 2, 3, 4, 5, 6] from rfl]⟩
  refine (core F.told (fun | 0 => x0 | 1 => x1 | 2 => x2 | 3 => x3 | 4 => x4 | 5 => x5 | _ => x6) n near W hF).mono fun e W' ⟨he, hb⟩ => ?_
  subst he
  refine ⟨_, rfl, _, _, _, [], [], [], hW', ?_, trodAll_mk3 (arrayReads _ _) (shut_int Ybaf.underlying3 wn) (shut_bool Ybaf.underlying4 near), rfl, hb.frame _, fun h => by cases h⟩
  exact trodAll_mk1 (shut_bool Ybaf.underlying4 true)

theorem laidOut : laidOutB Ybaf.pinned.checked.prog = true := by kernel_rfl
theorem stops : Ybaf.pinned.checked.prog.stops = ["fmt.errorf"] := by kernel_rfl
theorem stopKnobs : Ybaf.pinned.checked.prog.stopKnobs = [] := by kernel_rfl
theorem quiet (os : Os) : Stop.quiet Ybaf.pinned.checked.prog os := by
  intro k hk
  rw [stopKnobs] at hk
  cases hk

theorem proved : Rows.LawS8266CWholeToldSaid :=
  Claim7.holds_of_told_any 4 Ybaf.f4 "fmt.errorf" [] [] _ _ _ (by kernel_rfl) rfl rfl rfl laidOut (by kernel_rfl) rfl ⟨rfl, rfl, rfl, rfl, rfl, rfl, rfl⟩ rfl rfl (by kernel_rfl) (by kernel_rfl) Ybaf.func4 (by kernel_rfl)
    (of_decide_eq_true (by kernel_rfl)) (of_decide_eq_true (by kernel_rfl)) stops.symm rfl stopKnobs.symm (by kernel_rfl)
    (by kernel_rfl) (by kernel_rfl) (by kernel_rfl) (by kernel_rfl) (by kernel_rfl) (by kernel_rfl) (by kernel_rfl) (by kernel_rfl) (by kernel_rfl) rfl (by kernel_rfl) rfl rfl
    rfl rfl
    rfl (by kernel_rfl) (by kernel_rfl) (by kernel_rfl) (by decide) (by kernel_rfl)
    (OpenClaim.moreEntering_of (by kernel_rfl) (by kernel_rfl) (by kernel_rfl) (by kernel_rfl) (by kernel_rfl) (by kernel_rfl) (by kernel_rfl) (by kernel_rfl) (by kernel_rfl) (by kernel_rfl))
    ⟨_, WideRow.started_initial, quiet _⟩
    (fun os started _ H enc _ => lifted os started H enc)

end Go.Proofs.YbulkfodyFmt.lawS8266CWhole
