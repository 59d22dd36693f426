/-
  THE SHELF's CONTRACTS AT THIS DUMP, in plain words (the kit's lay-shelf and lay-plain wrote it for this program): encoding/binary.Uvarint, bytes.Equal.
-/
import Derived.Ground.MnProg
import Derived.Shelf.Bin.Uvarint
import Derived.Shelf.Bin.UvarintEmpty
import Derived.Shelf.Bytes.SlSearch0
import Derived.Test.YbulkbgzmFmtProg
namespace Go.Proofs
open Go.Shelf
def Ybaf.laysBin45_ren : Go.Shelf.Ren := ⟨fun | 45 => 25 | n => n, fun | 22 => 22 | 33 => 39 | 3 => 3 | 45 => 73 | 0 => 0 | 5 => 5 | 4 => 4 | n => n, fun | n => n⟩
theorem Ybaf.laysBin45 : Go.Proofs.LaysBin.n45 Ybaf.prog Ybaf.laysBin45_ren := {
  mixed := by kernel_rfl
  f45 := Ybaf.func25.trans (congrArg some (by kernel_rfl))
  t0 := Ybaf.underlying0
  a0 := Ybaf.isAgg0
  z0 := Ybaf.sizeOf0
  v0 := Ybaf.zeroValue0
  i0 := by kernel_rfl
  t3 := Ybaf.underlying3
  a3 := Ybaf.isAgg3
  z3 := Ybaf.sizeOf3
  v3 := Ybaf.zeroValue3
  i3 := by kernel_rfl
  t4 := Ybaf.underlying4
  a4 := Ybaf.isAgg4
  z4 := Ybaf.sizeOf4
  v4 := Ybaf.zeroValue4
  i4 := by kernel_rfl
  t5 := Ybaf.underlying5
  a5 := Ybaf.isAgg5
  z5 := Ybaf.sizeOf5
  v5 := Ybaf.zeroValue5
  i5 := by kernel_rfl
  t22 := Ybaf.underlying22
  a22 := Ybaf.isAgg22
  z22 := Ybaf.sizeOf22
  v22 := Ybaf.zeroValue22
  i22 := by kernel_rfl
  t33 := Ybaf.underlying39
  a33 := Ybaf.isAgg39
  z33 := Ybaf.sizeOf39
  v33 := Ybaf.zeroValue39
  i33 := by kernel_rfl
  t45 := Ybaf.underlying73
  a45 := Ybaf.isAgg73
  z45 := Ybaf.sizeOf73
  v45 := Ybaf.zeroValue73
  i45 := by kernel_rfl }
open Go.RowKit in
/-- binary.Uvarint: "Uvarint decodes a uint64 from buf and returns that value and the number of bytes read (> 0). If an error occurred, the value is 0 and the number of bytes n is <= 0 meaning: n == 0: buf too small; n < 0: value larger than 64 bits (overflow) and -n is the number of bytes read.": 'Lib.uvarintDec' OF buf's BYTES, both results. The world is as it was. (LAID: no walk: one application.) -/
theorem Ybaf.binary_Uvarint (g o n c : Nat) (l : List UInt8) (w : World) (hl : l.length = n) (hcell : ∀ j (hj : j < l.length), w.cell? ⟨g, o + j, none⟩ = some (.int .u8 (l[j]).toNat)) :
    Calls Ybaf.prog 25 #[.slice (some ⟨g, o, none⟩) n c] w fun e w' => e = .returned (.tuple #[.int .u64 (Lib.uvarintDec l).1, .int .i64 (Lib.uvarintDec l).2]) ∧ w' = w := Any.binary_Uvarint Ybaf.laysBin45 g o n c l w hl hcell
open Go.RowKit in
/-- binary.Uvarint AT A SLICE WITHOUT ELEMENTS, nil too: (0, 0): "buf too small": 'Lib.uvarintDec []'. The world is as it was. (LAID: no walk: one application.) -/
theorem Ybaf.binary_Uvarint_empty (ao : Option Addr) (c : Nat) (w : World) :
    Calls Ybaf.prog 25 #[.slice ao 0 c] w fun e w' => e = .returned (.tuple #[.int .u64 (Lib.uvarintDec []).1, .int .i64 (Lib.uvarintDec []).2]) ∧ w' = w := Any.binary_Uvarint_empty Ybaf.laysBin45 ao c w
def Ybaf.lays115_ren : Go.Shelf.Ren := ⟨fun | 115 => 8 | n => n, fun | 37 => 22 | 4 => 4 | 9 => 9 | 5 => 5 | n => n, fun | n => n⟩
theorem Ybaf.lays115 : Go.Proofs.Lays.n115 Ybaf.prog Ybaf.lays115_ren := {
  mixed := by kernel_rfl
  f115 := Ybaf.func8.trans (congrArg some (by kernel_rfl))
  t4 := Ybaf.underlying4
  a4 := Ybaf.isAgg4
  z4 := Ybaf.sizeOf4
  v4 := Ybaf.zeroValue4
  t9 := Ybaf.underlying9
  a9 := Ybaf.isAgg9
  z9 := Ybaf.sizeOf9
  v9 := Ybaf.zeroValue9
  t37 := Ybaf.underlying22
  a37 := Ybaf.isAgg22
  z37 := Ybaf.sizeOf22
  v37 := Ybaf.zeroValue22 }
open Go.Proofs Go.RowKit Go.Lib in
/-- bytes.Equal, each argument with what 'string(..)' of it gives. (LAID: no walk: one application.) -/
theorem Ybaf.bytes_Equal_strs (v1 v2 : Value) (t1 t2 : ByteArray) (w : World) (h1 : (convert 22 9 v1).run Ybaf.prog w = .ok (.string t1) w) (h2 : (convert 22 9 v2).run Ybaf.prog w = .ok (.string t2) w) :
    Calls Ybaf.prog 8 #[v1, v2] w fun e w' => e = .returned (.bool (t1.toList == t2.toList)) ∧ w' = w := Any.bytes_Equal_strs Ybaf.lays115 v1 v2 t1 t2 w h1 h2
end Go.Proofs
