/-
  DERIVED. GIVEN WITH THE SEED: THE CARDS: each row of YbulkbgzmFmtRows.lean that lists a variable, with what it lists TIED to the program's text (the seventh form; the later family's looks); each row that meets fmt, with fmt's text TOLD by the authors' own Lean function (tested against real Go, not proved from fmt's source: count such statements apart). THE CARD IS WHAT COUNTS. Prove the row's statement (the work); the ties are given (YbulkbgzmFmtTie.lean); close each card by the builder's one call (the guide's Derived/Test/ToyasCard.lean, 'card_holds'). Laid BY PROGRAM, IN A SANDBOX (cutbox-door.mjs). By AI agents, Wed Nov 11 2026. No macro, syntax, notation, axiom, sorry.
-/
import Derived.Test.YbulkbgzmFmtRows
import GoSem.ClaimSeven
namespace Go.Proofs.YbulkbgzmFmt
namespace Rows

/-- THE TOLD AND TIED CARD OF 'palimpsest.LawS2898AModel'. -/
def lawS2898AModelCard : Claim7 := { stood := { row := lawS2898AModelRow, standIns := [], harness := (true, "bbb9c61f9e4c141d9391ace0eade46d171dcf755c3209b368b05a0f4c8751cbb"), looks := false }, told := true, laidByText := true, laidKinds := [.sentinel, .sentinel, .sentinel], laidTests := true, laidLooks := .later, goes := false }
def LawS2898AModelToldSaid : Prop := Claim7.holds Ybaf.pinned (.plain (OpenSpec.ofChange lawS2898AModelSpec)) lawS2898AModelCard
/-- ITS FALSE NEIGHBOUR. Refute it at one input. -/
def LawS2898AModelToldWrongFalsely : Prop := Claim7.holds Ybaf.pinned (.plain (OpenSpec.ofChange lawS2898AModelWrong)) lawS2898AModelCard

/-- THE TOLD AND TIED CARD OF 'palimpsest.LawS2898ARoundTrip'. -/
def lawS2898ARoundTripCard : Claim7 := { stood := { row := lawS2898ARoundTripRow, standIns := [], harness := (true, "bbb9c61f9e4c141d9391ace0eade46d171dcf755c3209b368b05a0f4c8751cbb"), looks := false }, told := true, laidByText := true, laidKinds := [.sentinel, .sentinel, .sentinel], laidTests := true, laidLooks := .later, goes := false }
def LawS2898ARoundTripToldSaid : Prop := Claim7.holds Ybaf.pinned (.plain (OpenSpec.ofChange lawS2898ARoundTripSpec)) lawS2898ARoundTripCard
/-- ITS FALSE NEIGHBOUR. Refute it at one input. -/
def LawS2898ARoundTripToldWrongFalsely : Prop := Claim7.holds Ybaf.pinned (.plain (OpenSpec.ofChange lawS2898ARoundTripWrong)) lawS2898ARoundTripCard

/-- THE TOLD AND TIED CARD OF 'palimpsest.LawS2898CScript'. -/
def lawS2898CScriptCard : Claim7 := { stood := { row := lawS2898CScriptRow, standIns := [], harness := (true, "bbb9c61f9e4c141d9391ace0eade46d171dcf755c3209b368b05a0f4c8751cbb"), looks := false }, told := true, laidByText := true, laidKinds := [.sentinel, .sentinel, .sentinel, .sentinel, .sentinel], laidTests := true, laidLooks := .later, goes := false }
def LawS2898CScriptToldSaid : Prop := Claim7.holds Ybaf.pinned (.plain (OpenSpec.ofChange lawS2898CScriptSpec)) lawS2898CScriptCard
/-- ITS FALSE NEIGHBOUR. Refute it at one input. -/
def LawS2898CScriptToldWrongFalsely : Prop := Claim7.holds Ybaf.pinned (.plain (OpenSpec.ofChange lawS2898CScriptWrong)) lawS2898CScriptCard
end Rows
end Go.Proofs.YbulkbgzmFmt
