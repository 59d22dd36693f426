/-
  'LawS2898AModel', whatever its argument.
-/
import Derived.Test.YbulkbgzmFmtMo3
import Derived.Test.YbulkbgzmFmtOpen
namespace Go.Proofs.YbulkbgzmFmt
open Go.RowKit Go.Deep Go.Stop
set_option linter.unusedVariables false

theorem am_any (F : Interp) {H : Type} {enc : TypeId × Value → H} {w : World} {spare : Nat → Bool} {held : Bool} {v : Value} {d : DataW H} {ps : List MemPlace} (h : DataW.Trod enc Ybaf.prog w 0 spare held 22 v d ps) (h1 : v.cells.toList = [v]) (hF : F.answers w.tape) (hS : Sen w) :
    Calls Ybaf.prog 3 #[v] w fun e w' => e = .returned (.bool true) ∧ Below w.heap.size w w' := by
  obtain ⟨fuel, h⟩ := h
  rw [h1] at h
  obtain ⟨l, a, n, c, rfl, hb, hc, _, _⟩ := open_bytes h
  by_cases hn : 1048576 < n
  · exact am_long a n c w hn
  · exact am_core F a n c l w hF hS hb hc (by omega)

end Go.Proofs.YbulkbgzmFmt
