/-
  'LawS2898ARoundTrip': too many writes, and none.
-/
import Derived.Test.YbulkbgzmFmtRT3
import Derived.Deep.DeepCutAuto
namespace Go.Proofs.YbulkbgzmFmt
open Go.RowKit Go.Stop
set_option linter.unusedVariables false

theorem info22' : (Ybaf.prog.info? 22).map (fun i => (i.zero, i.size, i.bytes)) = some (some (.slice none 0 0), 1, 24) := by kernel_rfl

set_option maxRecDepth 100000 in
set_option maxHeartbeats 2000000 in
theorem rt_long (a : Option Addr) (n cap : Nat) (w : World) (hn : 1024 < n) :
    Calls Ybaf.prog 4 #[.slice a n cap] w fun e w' => e = .returned (.bool true) ∧ Below w.heap.size w w' := by
  have hg : (1024 : Int) < (n : Int) := by omega
  go_enter Ybaf.func4, Ybaf.ntmps4
  go_wp2
  go_ret
  exact ⟨rfl, Below.refl _ _⟩

set_option maxRecDepth 100000 in
set_option maxHeartbeats 2000000 in
theorem rt_empty (F : Interp) (a : Option Addr) (cap : Nat) (w : World) (hF : F.answers w.tape) (hS : Sen w) :
    Calls Ybaf.prog 4 #[.slice a 0 cap] w fun e w' => e = .returned (.bool true) ∧ Below w.heap.size w w' := by
  have hmk := run_make_row' (P := Ybaf.prog) 35 22 (.slice none 0 0) 24 Ybaf.underlying35 info22' rfl .i64 .i64 0 (by omega) (by omega)
  rw [show ((0 : Nat) : Int) = 0 from rfl] at hmk
  have HF : Hid (F.answers w.tape) := hF
  have HS : Hid (Sen w) := hS
  clear hF hS
  go_enter Ybaf.func4, Ybaf.ntmps4
  go_wp2
  have HB : Hid (Below w.heap.size w ((w.alloc (.cells (madeCells #[.slice none 0 0] 0) 22)).alloc (.cells (madeCells #[.slice none 0 0] 0) 22))) := ((Below.refl _ _).alloc (Nat.le_refl _) _).alloc (by simp) _
  generalize ((w.alloc (.cells (madeCells #[.slice none 0 0] 0) 22)).alloc (.cells (madeCells #[.slice none 0 0] 0) 22)) = W at *
  refine wp_loop_rounds 1 ?_
  rw [rounds_succ]
  go_wp2_with fail
  refine (decodeWrites_any F none 0 0 [] W (answers_below HF.out HB.out) (Sen.below (show Sen w from HS.out) HB.out) ⟨rfl, .inl rfl⟩ (Nat.le_refl _) (by omega)).mono ?_
  rintro e X ⟨hbX, hend⟩
  rw [show dec [] = some [] from rfl] at hend
  rcases hend with ⟨h0, _⟩ | ⟨os, gv, he, rfl, hops, hnil⟩
  · cases h0
  obtain rfl := Option.some.inj he
  obtain rfl := hnil.2 rfl
  have HX : Hid (Below w.heap.size w X) := HB.out.trans (hbX.mono HB.out.size)
  clear hbX HB hops hnil he
  go_wp2
  refine wp_loop_rounds 1 ?_
  rw [rounds_succ]
  go_wp2
  refine wp_loop_rounds 1 ?_
  rw [rounds_succ]
  go_wp2
  go_ret
  exact ⟨rfl, HX.out⟩

end Go.Proofs.YbulkbgzmFmt
