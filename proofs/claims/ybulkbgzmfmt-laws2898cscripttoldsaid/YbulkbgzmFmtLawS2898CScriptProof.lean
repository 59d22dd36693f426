/-
  'LawS2898CScript': THE CARD.
-/
import Derived.Test.YbulkbgzmFmtLifted
import Derived.Test.YbulkbgzmFmtCsY
namespace Go.Proofs.YbulkbgzmFmt
open Go.ChangeShapes Go.WideShapes Go.ChangeAt Go.RowKit Go.Kit
open Go.Extern.Stop Go.Stop Go.Extern
set_option linter.unusedVariables false
namespace LawS2898CScript

/-- The sentinels, as laid. -/
theorem sen5_of_laid {W : World} (hL : laidMet Ybaf.prog Rows.lawS2898CScriptRow.laid W) : Sen W := by
  have hL' : laidMet Ybaf.prog [(_, Rows.laid_example_com_palimpsest_palimpsest_ErrEmptyKey), (_, Rows.laid_example_com_palimpsest_palimpsest_ErrKeyTooLong), (_, Rows.laid_example_com_palimpsest_palimpsest_ErrValueTooLong), (_, Rows.laid_example_com_palimpsest_palimpsest_ErrSessionDone), (_, Rows.laid_example_com_palimpsest_palimpsest_ErrSessionOpen)] W := hL
  obtain ⟨a0, s0, hv0, hc0, _, _⟩ := laid_sentinel (g := 0) (ti := 27) (tp := 99) (te := 101) (ts := 9) hL' (by kernel_rfl) (by kernel_rfl) Ybaf.underlying27 (row99 (by decide)) Ybaf.underlying99 Ybaf.underlying101 rfl rfl Ybaf.underlying9 (by kernel_rfl) (by kernel_rfl)
  obtain ⟨a1, s1, hv1, hc1, _, _⟩ := laid_sentinel (g := 1) (ti := 27) (tp := 99) (te := 101) (ts := 9) hL'.tail (by kernel_rfl) (by kernel_rfl) Ybaf.underlying27 (row99 (by decide)) Ybaf.underlying99 Ybaf.underlying101 rfl rfl Ybaf.underlying9 (by kernel_rfl) (by kernel_rfl)
  obtain ⟨a2, s2, hv2, hc2, _, _⟩ := laid_sentinel (g := 2) (ti := 27) (tp := 99) (te := 101) (ts := 9) hL'.tail.tail (by kernel_rfl) (by kernel_rfl) Ybaf.underlying27 (row99 (by decide)) Ybaf.underlying99 Ybaf.underlying101 rfl rfl Ybaf.underlying9 (by kernel_rfl) (by kernel_rfl)
  intro g hg
  match g, hg with
  | 0, _ => exact ⟨a0, s0, by simpa using World.var?_cell (by kernel_rfl) hv0 0, hc0⟩
  | 1, _ => exact ⟨a1, s1, by simpa using World.var?_cell (by kernel_rfl) hv1 0, hc1⟩
  | 2, _ => exact ⟨a2, s2, by simpa using World.var?_cell (by kernel_rfl) hv2 0, hc2⟩

set_option maxRecDepth 1000000 in
theorem start (os : Os) : ∃ w0 : World, w0.os = os ∧ (w0.forCall (fun _ _ => 0) ⟨#[], #[.slice none 0 0], []⟩).variablesB Ybaf.prog = true ∧
    ((w0.forCall (fun _ _ => 0) ⟨#[], #[.slice none 0 0], []⟩).heap.toList.drop Ybaf.prog.globals.size).take ((begin Ybaf.prog (fun _ _ => 0) default).world.heap.size - Ybaf.prog.globals.size) = (begin Ybaf.prog (fun _ _ => 0) default).world.heap.toList.drop Ybaf.prog.globals.size ∧
    Input.okWideB Ybaf.prog (w0.forCall (fun _ _ => 0) ⟨#[], #[.slice none 0 0], []⟩) 5 ⟨#[], #[.slice none 0 0], []⟩ = true ∧
    ∀ (H : Type) (enc : TypeId × Value → H), (OpenSpec.ofChange Rows.lawS2898CScriptSpec).preRow enc Ybaf.prog Ybaf.f5 [] false Rows.lawS2898CScriptRow.laid (w0.forCall (fun _ _ => 0) ⟨#[], #[.slice none 0 0], []⟩).memory #[.slice none 0 0] := by
  refine ⟨(fun (w1 : World) (n : Nat) => (fun (put : Array Obj → Nat → Nat → Array Obj) => { w1 with heap := put (put (put (put (put w1.heap 0 n) 1 (n + 1)) 2 (n + 2)) 3 (n + 3)) 4 (n + 4) }) (fun h g k => h.modify g fun
      | .cells _ t frozen => .cells #[.iface 99 (.pointer (some ⟨k, 0, none⟩))] t frozen
      | o => o))
    (World.holding Ybaf.prog os ⟨#[.cells #[.string ⟨#[112, 97, 108, 105, 109, 112, 115, 101, 115, 116, 58, 32, 101, 109, 112, 116, 121, 32, 107, 101, 121]⟩] 101, .cells #[.string ⟨#[112, 97, 108, 105, 109, 112, 115, 101, 115, 116, 58, 32, 107, 101, 121, 32, 116, 111, 111, 32, 108, 111, 110, 103]⟩] 101, .cells #[.string ⟨#[112, 97, 108, 105, 109, 112, 115, 101, 115, 116, 58, 32, 118, 97, 108, 117, 101, 32, 116, 111, 111, 32, 108, 111, 110, 103]⟩] 101, .cells #[.string ⟨#[112, 97, 108, 105, 109, 112, 115, 101, 115, 116, 58, 32, 115, 101, 115, 115, 105, 111, 110, 32, 97, 108, 114, 101, 97, 100, 121, 32, 99, 111, 109, 109, 105, 116, 116, 101, 100, 32, 111, 114, 32, 100, 105, 115, 99, 97, 114, 100, 101, 100]⟩] 101, .cells #[.string ⟨#[112, 97, 108, 105, 109, 112, 115, 101, 115, 116, 58, 32, 97, 32, 115, 101, 115, 115, 105, 111, 110, 32, 105, 115, 32, 97, 108, 114, 101, 97, 100, 121, 32, 111, 112, 101, 110]⟩] 101], #[], []⟩)
    (World.holding Ybaf.prog default ⟨#[], #[], []⟩).heap.size, rfl, by kernel_rfl, by kernel_rfl, by kernel_rfl, fun H enc => OpenSpec.preRow_of_B rfl 8 (by kernel_rfl) (by kernel_rfl) (laidMet_of_run3 8 (by kernel_rfl) (by kernel_rfl) (by kernel_rfl))⟩

set_option maxRecDepth 100000 in
theorem lifted (os : Os) (started : os.Started) (H : Type) (enc : TypeId × Value → H) :
    ReturnsInTold none {} Ybaf.checked os 5 .any Input.okWide ((OpenSpec.ofChange Rows.lawS2898CScriptSpec).preRow enc Ybaf.prog Ybaf.f5 [] false Rows.lawS2898CScriptRow.laid) (fun F => ((OpenSpec.ofChange Rows.lawS2898CScriptSpec).at F).post enc Ybaf.prog Ybaf.f5 false true false false) (aloneAtReturn Ybaf.prog) nothingAlways := by
  obtain ⟨w0, s1, s2, s3, s4, s5⟩ := start os
  refine returnsInTold_of_row (C := Ybaf.checked) (s := OpenSpec.ofChange Rows.lawS2898CScriptSpec) (by kernel_rfl) own started (by kernel_rfl) Ybaf.func5
    (OpenSpec.witness_stopped_at (enc := enc) (C := Ybaf.checked) false w0 #[.slice none 0 0] s1 s2 s3 s4 (s5 H enc)) ?_
  intro F W base args ds gs before _ hF hval0 hW _ _ hsz hL _
  have hval : ∀ (j : Nat) t v, Ybaf.f5.params[j]? = some t → args[j]? = some v → Value.okWide Ybaf.prog W .any base t v := hval0
  have hW' := hW
  obtain ⟨p, q, hA0, hV0, rfl, _, _⟩ := hW
  have hA : DataW.TrodAll enc Ybaf.prog W 0 (fun _ => true) true Ybaf.f5.params.toList args.toList ds p := hA0
  rw [Ybaf.params5] at hA hval
  obtain ⟨v0, d0, rfl, rfl, h0⟩ := trodAll_one hA
  have hlt : ∀ x ∈ p, x.block < W.heap.size := fun x hx => hW'.lt x (List.mem_append_left _ hx)
  have hg5 : ∃ g1 g2 g3 g4 g5, gs = [g1, g2, g3, g4, g5] := by
    match gs, hV0 with
    | [g1, g2, g3, g4, g5], _ => exact ⟨g1, g2, g3, g4, g5, rfl⟩
    | [], h => exact h.elim
    | [_], h => obtain ⟨_, _, _, _, _, _, _, _, _, _, h, _⟩ := h; exact h.elim
    | [_, _], h => obtain ⟨_, _, _, _, _, _, _, _, _, _, ⟨_, _, _, _, _, _, _, _, _, _, h, _⟩, _⟩ := h; exact h.elim
    | [_, _, _], h => obtain ⟨_, _, _, _, _, _, _, _, _, _, ⟨_, _, _, _, _, _, _, _, _, _, ⟨_, _, _, _, _, _, _, _, _, _, h, _⟩, _⟩, _⟩ := h; exact h.elim
    | [_, _, _, _], h => obtain ⟨_, _, _, _, _, _, _, _, _, _, ⟨_, _, _, _, _, _, _, _, _, _, ⟨_, _, _, _, _, _, _, _, _, _, ⟨_, _, _, _, _, _, _, _, _, _, h, _⟩, _⟩, _⟩, _⟩ := h; exact h.elim
    | _ :: _ :: _ :: _ :: _ :: _ :: _, h => obtain ⟨_, _, _, _, _, _, _, _, _, _, ⟨_, _, _, _, _, _, _, _, _, _, ⟨_, _, _, _, _, _, _, _, _, _, ⟨_, _, _, _, _, _, _, _, _, _, ⟨_, _, _, _, _, _, _, _, _, _, h, _⟩, _⟩, _⟩, _⟩, _⟩ := h; exact h.elim
  obtain ⟨g1, g2, g3, g4, g5, rfl⟩ := hg5
  have hcall := cs_any h0 (by obtain ⟨a, n, c, rfl⟩ := okWide_slice Ybaf.underlying41 (hval 0 41 v0 rfl rfl); rfl) (sen5_of_laid hL)
  refine hcall.mono fun e W' hend => ?_
  obtain ⟨rfl, bel⟩ := hend
  refine ⟨_, rfl, _, _, _, [], p, q, hW', trodAll_mk1 (shut_bool Ybaf.underlying4 true), trodAll_mk1 (bel.trod laidOut (by kernel_rfl) (of_decide_eq_true (by kernel_rfl)) h0 hlt), bel.trodVars laidOut (by kernel_rfl) hV0, bel.frame _, fun h => by cases h⟩

end LawS2898CScript

/-- THE CARD. -/
theorem lawS2898CScript.proved : Rows.LawS2898CScriptToldSaid :=
  Claim7.holds_of_told_tied_any_at .later 5 Ybaf.f5 "fmt.errorf" [] [] _ _ _ _ _ (by kernel_rfl) rfl rfl rfl laidOut (by kernel_rfl) rfl ⟨rfl, rfl, rfl, rfl, rfl, rfl, rfl⟩ rfl rfl (by kernel_rfl) (by kernel_rfl) Ybaf.func5 (by kernel_rfl)
    (of_decide_eq_true (by kernel_rfl)) (of_decide_eq_true (by kernel_rfl)) stops.symm rfl stopKnobs.symm (by kernel_rfl)
    (by kernel_rfl) (by kernel_rfl) (by kernel_rfl) (by kernel_rfl) (by kernel_rfl) (by kernel_rfl) (by kernel_rfl) (by kernel_rfl) (by kernel_rfl) rfl (by kernel_rfl) rfl rfl
    rfl rfl
    rfl (by kernel_rfl) (by kernel_rfl) (by kernel_rfl) (by decide) (by kernel_rfl) lawS2898CScript_row_tie
    (OpenClaim.moreEntering_of (by kernel_rfl) (by kernel_rfl) (by kernel_rfl) (by kernel_rfl) (by kernel_rfl) (by kernel_rfl) (by kernel_rfl) (by kernel_rfl) (by kernel_rfl) (by kernel_rfl))
    ⟨_, WideRow.started_initial, quiet _⟩
    (fun os started _ H enc _ => LawS2898CScript.lifted os started H enc)

end Go.Proofs.YbulkbgzmFmt
