/-
  WHAT ALL CARDS OF THIS SEAT ASK: the sentinels off 'laid', the start that is there.
-/
import Derived.Test.YbulkbgzmFmtTie
import Derived.Test.YbulkbgzmFmtCards
import Derived.Test.YbulkbgzmFmtErr
import Derived.ProofKit
import Derived.WideKeyArgs
import Derived.WideKeyElems4
import Derived.Carry
import Derived.Stop.JoinedAt
import Derived.Stop.JoinedTold
import Derived.Stop.Texts
import Derived.Stop.LaidErr
import Derived.Deep.DeepLaidRun
import Derived.OpenVars
namespace Go.Proofs.YbulkbgzmFmt
open Go.ChangeShapes Go.WideShapes Go.ChangeAt Go.RowKit Go.Kit
open Go.Extern.Stop Go.Stop Go.Extern
set_option linter.unusedVariables false

theorem own : ownKnob Ybaf.prog.godebug = none := by kernel_rfl
theorem laidOut : laidOutB Ybaf.pinned.checked.prog = true := by kernel_rfl
theorem stops : Ybaf.pinned.checked.prog.stops = ["fmt.errorf"] := by kernel_rfl
theorem stopKnobs : Ybaf.pinned.checked.prog.stopKnobs = [] := by kernel_rfl
theorem quiet (os : Os) : Stop.quiet Ybaf.pinned.checked.prog os := by
  intro k hk
  rw [stopKnobs] at hk
  cases hk

theorem row99 {nm : String} (hnm : nm.toList = '*' :: "errors.errorString".toList) (u : TypeId) (h : Ybaf.prog.typeName? 3 u = some nm) : u = 99 := by
  refine typeName_ptr_named (P := Ybaf.prog) (nm := "errors.errorString") (by kernel_rfl) (by kernel_rfl) (by decide) u (h.trans (congrArg some (String.toList_inj.1 (hnm.trans ?_))))
  decide

/-- The three sentinels of this seat's laws, as laid. -/
theorem sen_of_laid {W : World} (hL : laidMet Ybaf.prog Rows.lawS2898ARoundTripRow.laid W) : Sen W := by
  have hL' : laidMet Ybaf.prog [(_, Rows.laid_example_com_palimpsest_palimpsest_ErrEmptyKey), (_, Rows.laid_example_com_palimpsest_palimpsest_ErrKeyTooLong), (_, Rows.laid_example_com_palimpsest_palimpsest_ErrValueTooLong)] W := hL
  obtain ⟨a0, s0, hv0, hc0, _, _⟩ := laid_sentinel (g := 0) (ti := 27) (tp := 99) (te := 101) (ts := 9) hL' (by kernel_rfl) (by kernel_rfl) Ybaf.underlying27 (row99 (by decide)) Ybaf.underlying99 Ybaf.underlying101 rfl rfl Ybaf.underlying9 (by kernel_rfl) (by kernel_rfl)
  obtain ⟨a1, s1, hv1, hc1, _, _⟩ := laid_sentinel (g := 1) (ti := 27) (tp := 99) (te := 101) (ts := 9) hL'.tail (by kernel_rfl) (by kernel_rfl) Ybaf.underlying27 (row99 (by decide)) Ybaf.underlying99 Ybaf.underlying101 rfl rfl Ybaf.underlying9 (by kernel_rfl) (by kernel_rfl)
  obtain ⟨a2, s2, hv2, hc2, _, _⟩ := laid_sentinel (g := 2) (ti := 27) (tp := 99) (te := 101) (ts := 9) hL'.tail.tail (by kernel_rfl) (by kernel_rfl) Ybaf.underlying27 (row99 (by decide)) Ybaf.underlying99 Ybaf.underlying101 rfl rfl Ybaf.underlying9 (by kernel_rfl) (by kernel_rfl)
  intro g hg
  match g, hg with
  | 0, _ => exact ⟨a0, s0, by simpa using World.var?_cell (by kernel_rfl) hv0 0, hc0⟩
  | 1, _ => exact ⟨a1, s1, by simpa using World.var?_cell (by kernel_rfl) hv1 0, hc1⟩
  | 2, _ => exact ⟨a2, s2, by simpa using World.var?_cell (by kernel_rfl) hv2 0, hc2⟩

end Go.Proofs.YbulkbgzmFmt
