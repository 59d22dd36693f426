/-
  No cell of these rows narrows 'for every input' (looked for: loops, veiled, ifaces, maps, wideKeys, modest, calm, conditions, laid).
  DERIVED. THE GIVEN ROWS OF THIS SEAT. 1 by the template 'for every input the law returns true; each argument reads behind the call as it read before'; 0 by the template 'total and deterministic' (their statements: YbulkbhduTotals.lean).
  GIVEN WITH THE SEED: the statements are not yours to turn. If you find one false, say at which input.
  Laid BY PROGRAM, IN A SANDBOX (cutbox-rows.mjs): the forced cells as the released guide's own fill.sh prints them over the translation c08b36fadc31e4e1… (all of the seat's roots in one cut). By AI agents, Wed Nov 11 2026. No macro, syntax, notation, axiom, sorry.
-/
import Derived.Test.YbulkbhduChecked
import GoSem.Claim
import GoSem.ClaimJoined
import GoSem.ClaimMapViews
import Derived.JoinedTies
import Derived.KernelRfl
namespace Go.Proofs.Ybulkbhdu
/- THE CELL 'sum', in the pinned program and in every row, IS THE sha256 OF THE DUMP (.gsa) THAT YbulkbhduProg.lean LOADS. Nothing in Lean hashes anything: it is a label: what it is worth is what the hold of that sum in a sandbox is worth. -/
noncomputable def Yba.pinned : Pinned := { name := "ybulkbhdu", sum := "c08b36fadc31e4e1e3cf2dbcac47facf74cef4f80d728408362a779ce5b5d720", checked := Yba.checked }
namespace Rows
def none {H : Type} : Left H := { results := [], args := [] }

/-- 'ctph.LawS2906BModel': WHATEVER THE INPUT: true; the input reads as it did. -/
def lawS2906BModelSpec : ChangeSpec := { name := "lawS2906BModel", fn := fun _ => fun
  | [d1, d2, d3, d4] => { results := [.lit (.bool true)], args := [d1, d2, d3, d4] }
  | _ => none }
def lawS2906BModelRow : OpenClaim := { program := "ybulkbhdu", sum := "c08b36fadc31e4e1e3cf2dbcac47facf74cef4f80d728408362a779ce5b5d720", func := "example.com/hashkindred/hashkindred/ctph.LawS2906BModel", spec := "lawS2906BModel", apart := false }
def LawS2906BModelSaid : Prop := lawS2906BModelRow.holds Yba.pinned (OpenSpec.ofChange lawS2906BModelSpec)

/-- ITS FALSE NEIGHBOUR: 'it returns false'. Refute it at one input. -/
def lawS2906BModelWrong : ChangeSpec := { name := "lawS2906BModel", fn := fun _ => fun
  | [d1, d2, d3, d4] => { results := [.lit (.bool false)], args := [d1, d2, d3, d4] }
  | _ => none }
def LawS2906BModelWrongFalsely : Prop := lawS2906BModelRow.holds Yba.pinned (OpenSpec.ofChange lawS2906BModelWrong)

end Rows
end Go.Proofs.Ybulkbhdu
