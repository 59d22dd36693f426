/-
  No cell of these rows narrows 'for every input' (looked for: loops, veiled, ifaces, maps, wideKeys, modest, calm, conditions, laid).
  DERIVED. THE GIVEN ROWS OF THIS SEAT. 4 by the template 'for every input the law returns true; each argument reads behind the call as it read before'; 0 by the template 'total and deterministic' (their statements: YbulkbgxiTotals.lean).
  GIVEN WITH THE SEED: the statements are not yours to turn. If you find one false, say at which input.
  Laid BY PROGRAM, IN A SANDBOX (cutbox-rows.mjs): the forced cells as the released guide's own fill.sh prints them over the translation 2f2d63924ab7ccb2… (all of the seat's roots in one cut). By AI agents, Wed Nov 11 2026. No macro, syntax, notation, axiom, sorry.
-/
import Derived.Test.YbulkbgxiChecked
import GoSem.Claim
import GoSem.ClaimJoined
import GoSem.ClaimMapViews
import Derived.JoinedTies
import Derived.KernelRfl
namespace Go.Proofs.Ybulkbgxi
/- THE CELL 'sum', in the pinned program and in every row, IS THE sha256 OF THE DUMP (.gsa) THAT YbulkbgxiProg.lean LOADS. Nothing in Lean hashes anything: it is a label: what it is worth is what the hold of that sum in a sandbox is worth. -/
noncomputable def Yba.pinned : Pinned := { name := "ybulkbgxi", sum := "2f2d63924ab7ccb2b772ea0d43ebd4cd9be84774b98baace851ab587bf8a2916", checked := Yba.checked }
namespace Rows
def none {H : Type} : Left H := { results := [], args := [] }

/-- 'isolevel.LawS2894BSwap': WHATEVER THE INPUT: true; the input reads as it did. -/
def lawS2894BSwapSpec : ChangeSpec := { name := "lawS2894BSwap", fn := fun _ => fun
  | [d1, d2] => { results := [.lit (.bool true)], args := [d1, d2] }
  | _ => none }
def lawS2894BSwapRow : OpenClaim := { program := "ybulkbgxi", sum := "2f2d63924ab7ccb2b772ea0d43ebd4cd9be84774b98baace851ab587bf8a2916", func := "example.com/isolevel/isolevel.LawS2894BSwap", spec := "lawS2894BSwap", plainKeys := false, apart := false }
def LawS2894BSwapSaid : Prop := lawS2894BSwapRow.holds Yba.pinned (OpenSpec.ofChange lawS2894BSwapSpec)

/-- ITS FALSE NEIGHBOUR: 'it returns false'. Refute it at one input. -/
def lawS2894BSwapWrong : ChangeSpec := { name := "lawS2894BSwap", fn := fun _ => fun
  | [d1, d2] => { results := [.lit (.bool false)], args := [d1, d2] }
  | _ => none }
def LawS2894BSwapWrongFalsely : Prop := lawS2894BSwapRow.holds Yba.pinned (OpenSpec.ofChange lawS2894BSwapWrong)

/-- 'isolevel.LawS2894BScript': WHATEVER THE INPUT: true; the input reads as it did. -/
def lawS2894BScriptSpec : ChangeSpec := { name := "lawS2894BScript", fn := fun _ => fun
  | [d1, d2] => { results := [.lit (.bool true)], args := [d1, d2] }
  | _ => none }
def lawS2894BScriptRow : OpenClaim := { program := "ybulkbgxi", sum := "2f2d63924ab7ccb2b772ea0d43ebd4cd9be84774b98baace851ab587bf8a2916", func := "example.com/isolevel/isolevel.LawS2894BScript", spec := "lawS2894BScript", plainKeys := false, apart := false }
def LawS2894BScriptSaid : Prop := lawS2894BScriptRow.holds Yba.pinned (OpenSpec.ofChange lawS2894BScriptSpec)

/-- ITS FALSE NEIGHBOUR: 'it returns false'. Refute it at one input. -/
def lawS2894BScriptWrong : ChangeSpec := { name := "lawS2894BScript", fn := fun _ => fun
  | [d1, d2] => { results := [.lit (.bool false)], args := [d1, d2] }
  | _ => none }
def LawS2894BScriptWrongFalsely : Prop := lawS2894BScriptRow.holds Yba.pinned (OpenSpec.ofChange lawS2894BScriptWrong)

/-- 'wal.LawS2894CModel': WHATEVER THE INPUT: true; the input reads as it did. -/
def lawS2894CModelSpec : ChangeSpec := { name := "lawS2894CModel", fn := fun _ => fun
  | [d] => { results := [.lit (.bool true)], args := [d] }
  | _ => none }
def lawS2894CModelRow : OpenClaim := { program := "ybulkbgxi", sum := "2f2d63924ab7ccb2b772ea0d43ebd4cd9be84774b98baace851ab587bf8a2916", func := "example.com/isolevel/isolevel/internal/wal.LawS2894CModel", spec := "lawS2894CModel", plainKeys := false, apart := false }
def LawS2894CModelSaid : Prop := lawS2894CModelRow.holds Yba.pinned (OpenSpec.ofChange lawS2894CModelSpec)

/-- ITS FALSE NEIGHBOUR: 'it returns false'. Refute it at one input. -/
def lawS2894CModelWrong : ChangeSpec := { name := "lawS2894CModel", fn := fun _ => fun
  | [d] => { results := [.lit (.bool false)], args := [d] }
  | _ => none }
def LawS2894CModelWrongFalsely : Prop := lawS2894CModelRow.holds Yba.pinned (OpenSpec.ofChange lawS2894CModelWrong)

/-- 'wal.LawS2894CBuilt': WHATEVER THE INPUT: true; the input reads as it did. -/
def lawS2894CBuiltSpec : ChangeSpec := { name := "lawS2894CBuilt", fn := fun _ => fun
  | [d1, d2, d3] => { results := [.lit (.bool true)], args := [d1, d2, d3] }
  | _ => none }
def lawS2894CBuiltRow : OpenClaim := { program := "ybulkbgxi", sum := "2f2d63924ab7ccb2b772ea0d43ebd4cd9be84774b98baace851ab587bf8a2916", func := "example.com/isolevel/isolevel/internal/wal.LawS2894CBuilt", spec := "lawS2894CBuilt", plainKeys := false, apart := false }
def LawS2894CBuiltSaid : Prop := lawS2894CBuiltRow.holds Yba.pinned (OpenSpec.ofChange lawS2894CBuiltSpec)

/-- ITS FALSE NEIGHBOUR: 'it returns false'. Refute it at one input. -/
def lawS2894CBuiltWrong : ChangeSpec := { name := "lawS2894CBuilt", fn := fun _ => fun
  | [d1, d2, d3] => { results := [.lit (.bool false)], args := [d1, d2, d3] }
  | _ => none }
def LawS2894CBuiltWrongFalsely : Prop := lawS2894CBuiltRow.holds Yba.pinned (OpenSpec.ofChange lawS2894CBuiltWrong)

end Rows
end Go.Proofs.Ybulkbgxi
