/-
  NARROWER THAN 'FOR EVERY INPUT', by the rows' own cells (each row's printed sentence says how): LawS2898AModel: ifaces, laid · LawS2898ARoundTrip: ifaces, laid · LawS2898CScript: ifaces, laid.
  DERIVED. THE GIVEN ROWS OF THIS SEAT. 3 by the template 'for every input the law returns true; each argument reads behind the call as it read before'; 0 by the template 'total and deterministic' (their statements: YbulkbgzmFmtTotals.lean).
  GIVEN WITH THE SEED: the statements are not yours to turn. If you find one false, say at which input.
  Laid BY PROGRAM, IN A SANDBOX (cutbox-rows.mjs): the forced cells as the released guide's own fill.sh prints them over the translation 9de0722d51e3d74d… (all of the seat's roots in one cut). By AI agents, Wed Nov 11 2026. No macro, syntax, notation, axiom, sorry.
-/
import Derived.Test.YbulkbgzmFmtChecked
import GoSem.Claim
import GoSem.ClaimJoined
import GoSem.ClaimMapViews
import Derived.JoinedTies
import Derived.KernelRfl
namespace Go.Proofs.YbulkbgzmFmt
/- THE CELL 'sum', in the pinned program and in every row, IS THE sha256 OF THE DUMP (.gsa) THAT YbulkbgzmFmtProg.lean LOADS. Nothing in Lean hashes anything: it is a label: what it is worth is what the hold of that sum in a sandbox is worth. -/
noncomputable def Ybaf.pinned : Pinned := { name := "ybulkbgzmfmt", sum := "9de0722d51e3d74da2a06a9ab930a98032920024be0a317e85e56df23f5fc430", checked := Ybaf.checked }
namespace Rows
def none {H : Type} : Left H := { results := [], args := [] }

/- WHAT THE LISTED PACKAGE-LEVEL VARIABLES READ AS WHEN THE CALL BEGINS. Each datum BY PROGRAM (the guide's laid-datum.mjs) off the statement by which the dump's own 'gosem.cut.vars' lays the variable. In a bare row this is a premise. The card (YbulkbgzmFmtCards.lean) ties it to the program's text. -/
def laid_example_com_palimpsest_palimpsest_ErrEmptyKey {H : Type} : DataW H := .iface "*errors.errorString" (.ptr (.agg [.lit (.string [112, 97, 108, 105, 109, 112, 115, 101, 115, 116, 58, 32, 101, 109, 112, 116, 121, 32, 107, 101, 121])]))
def laid_example_com_palimpsest_palimpsest_ErrKeyTooLong {H : Type} : DataW H := .iface "*errors.errorString" (.ptr (.agg [.lit (.string [112, 97, 108, 105, 109, 112, 115, 101, 115, 116, 58, 32, 107, 101, 121, 32, 116, 111, 111, 32, 108, 111, 110, 103])]))
def laid_example_com_palimpsest_palimpsest_ErrValueTooLong {H : Type} : DataW H := .iface "*errors.errorString" (.ptr (.agg [.lit (.string [112, 97, 108, 105, 109, 112, 115, 101, 115, 116, 58, 32, 118, 97, 108, 117, 101, 32, 116, 111, 111, 32, 108, 111, 110, 103])]))
def laid_example_com_palimpsest_palimpsest_ErrSessionDone {H : Type} : DataW H := .iface "*errors.errorString" (.ptr (.agg [.lit (.string [112, 97, 108, 105, 109, 112, 115, 101, 115, 116, 58, 32, 115, 101, 115, 115, 105, 111, 110, 32, 97, 108, 114, 101, 97, 100, 121, 32, 99, 111, 109, 109, 105, 116, 116, 101, 100, 32, 111, 114, 32, 100, 105, 115, 99, 97, 114, 100, 101, 100])]))
def laid_example_com_palimpsest_palimpsest_ErrSessionOpen {H : Type} : DataW H := .iface "*errors.errorString" (.ptr (.agg [.lit (.string [112, 97, 108, 105, 109, 112, 115, 101, 115, 116, 58, 32, 97, 32, 115, 101, 115, 115, 105, 111, 110, 32, 105, 115, 32, 97, 108, 114, 101, 97, 100, 121, 32, 111, 112, 101, 110])]))

/-- 'palimpsest.LawS2898AModel': WHATEVER THE INPUT: true; the input reads as it did. -/
def lawS2898AModelSpec : ChangeSpec := { name := "lawS2898AModel", vars := ["example.com/palimpsest/palimpsest.ErrEmptyKey", "example.com/palimpsest/palimpsest.ErrKeyTooLong", "example.com/palimpsest/palimpsest.ErrValueTooLong"], fn := fun _ => fun
  | [d, g1, g2, g3] => { results := [.lit (.bool true)], args := [d], vars := [g1, g2, g3] }
  | _ => none }
def lawS2898AModelRow : OpenClaim := { program := "ybulkbgzmfmt", sum := "9de0722d51e3d74da2a06a9ab930a98032920024be0a317e85e56df23f5fc430", func := "example.com/palimpsest/palimpsest.LawS2898AModel", spec := "lawS2898AModel", stops := ["fmt.errorf"], inPlace := ["fmt.errorf"], named := ["example.com/palimpsest/palimpsest.ErrEmptyKey", "example.com/palimpsest/palimpsest.ErrKeyTooLong", "example.com/palimpsest/palimpsest.ErrValueTooLong"], ifaces := true, apart := false, laid := [("example.com/palimpsest/palimpsest.ErrEmptyKey", laid_example_com_palimpsest_palimpsest_ErrEmptyKey), ("example.com/palimpsest/palimpsest.ErrKeyTooLong", laid_example_com_palimpsest_palimpsest_ErrKeyTooLong), ("example.com/palimpsest/palimpsest.ErrValueTooLong", laid_example_com_palimpsest_palimpsest_ErrValueTooLong)] }
/-- NO THEOREM (fmt's text is open here; it may be false): for the released tool's asking of the row's closed facts alone. THE STATEMENT IS 'LawS2898AModelToldSaid' (YbulkbgzmFmtCards.lean). -/
def LawS2898AModelFormAsk : Prop := lawS2898AModelRow.holds Ybaf.pinned (OpenSpec.ofChange lawS2898AModelSpec)

/-- ITS FALSE NEIGHBOUR: 'it returns false'. Refute it at one input. -/
def lawS2898AModelWrong : ChangeSpec := { name := "lawS2898AModel", vars := ["example.com/palimpsest/palimpsest.ErrEmptyKey", "example.com/palimpsest/palimpsest.ErrKeyTooLong", "example.com/palimpsest/palimpsest.ErrValueTooLong"], fn := fun _ => fun
  | [d, g1, g2, g3] => { results := [.lit (.bool false)], args := [d], vars := [g1, g2, g3] }
  | _ => none }
def LawS2898AModelWrongFormAsk : Prop := lawS2898AModelRow.holds Ybaf.pinned (OpenSpec.ofChange lawS2898AModelWrong)

/-- 'palimpsest.LawS2898ARoundTrip': WHATEVER THE INPUT: true; the input reads as it did. -/
def lawS2898ARoundTripSpec : ChangeSpec := { name := "lawS2898ARoundTrip", vars := ["example.com/palimpsest/palimpsest.ErrEmptyKey", "example.com/palimpsest/palimpsest.ErrKeyTooLong", "example.com/palimpsest/palimpsest.ErrValueTooLong"], fn := fun _ => fun
  | [d, g1, g2, g3] => { results := [.lit (.bool true)], args := [d], vars := [g1, g2, g3] }
  | _ => none }
def lawS2898ARoundTripRow : OpenClaim := { program := "ybulkbgzmfmt", sum := "9de0722d51e3d74da2a06a9ab930a98032920024be0a317e85e56df23f5fc430", func := "example.com/palimpsest/palimpsest.LawS2898ARoundTrip", spec := "lawS2898ARoundTrip", stops := ["fmt.errorf"], inPlace := ["fmt.errorf"], named := ["example.com/palimpsest/palimpsest.ErrEmptyKey", "example.com/palimpsest/palimpsest.ErrKeyTooLong", "example.com/palimpsest/palimpsest.ErrValueTooLong"], ifaces := true, apart := false, laid := [("example.com/palimpsest/palimpsest.ErrEmptyKey", laid_example_com_palimpsest_palimpsest_ErrEmptyKey), ("example.com/palimpsest/palimpsest.ErrKeyTooLong", laid_example_com_palimpsest_palimpsest_ErrKeyTooLong), ("example.com/palimpsest/palimpsest.ErrValueTooLong", laid_example_com_palimpsest_palimpsest_ErrValueTooLong)] }
/-- NO THEOREM (fmt's text is open here; it may be false): for the released tool's asking of the row's closed facts alone. THE STATEMENT IS 'LawS2898ARoundTripToldSaid' (YbulkbgzmFmtCards.lean). -/
def LawS2898ARoundTripFormAsk : Prop := lawS2898ARoundTripRow.holds Ybaf.pinned (OpenSpec.ofChange lawS2898ARoundTripSpec)

/-- ITS FALSE NEIGHBOUR: 'it returns false'. Refute it at one input. -/
def lawS2898ARoundTripWrong : ChangeSpec := { name := "lawS2898ARoundTrip", vars := ["example.com/palimpsest/palimpsest.ErrEmptyKey", "example.com/palimpsest/palimpsest.ErrKeyTooLong", "example.com/palimpsest/palimpsest.ErrValueTooLong"], fn := fun _ => fun
  | [d, g1, g2, g3] => { results := [.lit (.bool false)], args := [d], vars := [g1, g2, g3] }
  | _ => none }
def LawS2898ARoundTripWrongFormAsk : Prop := lawS2898ARoundTripRow.holds Ybaf.pinned (OpenSpec.ofChange lawS2898ARoundTripWrong)

/-- 'palimpsest.LawS2898CScript': WHATEVER THE INPUT: true; the input reads as it did. -/
def lawS2898CScriptSpec : ChangeSpec := { name := "lawS2898CScript", vars := ["example.com/palimpsest/palimpsest.ErrSessionDone", "example.com/palimpsest/palimpsest.ErrSessionOpen", "example.com/palimpsest/palimpsest.ErrEmptyKey", "example.com/palimpsest/palimpsest.ErrKeyTooLong", "example.com/palimpsest/palimpsest.ErrValueTooLong"], fn := fun _ => fun
  | [d, g1, g2, g3, g4, g5] => { results := [.lit (.bool true)], args := [d], vars := [g1, g2, g3, g4, g5] }
  | _ => none }
def lawS2898CScriptRow : OpenClaim := { program := "ybulkbgzmfmt", sum := "9de0722d51e3d74da2a06a9ab930a98032920024be0a317e85e56df23f5fc430", func := "example.com/palimpsest/palimpsest.LawS2898CScript", spec := "lawS2898CScript", stops := ["fmt.errorf"], inPlace := ["fmt.errorf", "internal/bytealg.Compare"], unfollowed := true, recurses := true, named := ["example.com/palimpsest/palimpsest.ErrSessionDone", "example.com/palimpsest/palimpsest.ErrSessionOpen", "example.com/palimpsest/palimpsest.ErrEmptyKey", "example.com/palimpsest/palimpsest.ErrKeyTooLong", "example.com/palimpsest/palimpsest.ErrValueTooLong"], ifaces := true, apart := false, laid := [("example.com/palimpsest/palimpsest.ErrEmptyKey", laid_example_com_palimpsest_palimpsest_ErrEmptyKey), ("example.com/palimpsest/palimpsest.ErrKeyTooLong", laid_example_com_palimpsest_palimpsest_ErrKeyTooLong), ("example.com/palimpsest/palimpsest.ErrValueTooLong", laid_example_com_palimpsest_palimpsest_ErrValueTooLong), ("example.com/palimpsest/palimpsest.ErrSessionDone", laid_example_com_palimpsest_palimpsest_ErrSessionDone), ("example.com/palimpsest/palimpsest.ErrSessionOpen", laid_example_com_palimpsest_palimpsest_ErrSessionOpen)] }
/-- NO THEOREM (fmt's text is open here; it may be false): for the released tool's asking of the row's closed facts alone. THE STATEMENT IS 'LawS2898CScriptToldSaid' (YbulkbgzmFmtCards.lean). -/
def LawS2898CScriptFormAsk : Prop := lawS2898CScriptRow.holds Ybaf.pinned (OpenSpec.ofChange lawS2898CScriptSpec)

/-- ITS FALSE NEIGHBOUR: 'it returns false'. Refute it at one input. -/
def lawS2898CScriptWrong : ChangeSpec := { name := "lawS2898CScript", vars := ["example.com/palimpsest/palimpsest.ErrSessionDone", "example.com/palimpsest/palimpsest.ErrSessionOpen", "example.com/palimpsest/palimpsest.ErrEmptyKey", "example.com/palimpsest/palimpsest.ErrKeyTooLong", "example.com/palimpsest/palimpsest.ErrValueTooLong"], fn := fun _ => fun
  | [d, g1, g2, g3, g4, g5] => { results := [.lit (.bool false)], args := [d], vars := [g1, g2, g3, g4, g5] }
  | _ => none }
def LawS2898CScriptWrongFormAsk : Prop := lawS2898CScriptRow.holds Ybaf.pinned (OpenSpec.ofChange lawS2898CScriptWrong)

end Rows
end Go.Proofs.YbulkbgzmFmt
