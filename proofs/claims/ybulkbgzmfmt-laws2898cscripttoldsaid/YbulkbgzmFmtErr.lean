/-
  fmt.Errorf AT THE TWO FORMATS OF THIS PROGRAM, and the checks that hand an error back. WHATEVER TEXT fmt GIVES: of the error only this is said: it is an interface value that is not nil.
-/
import Derived.Test.YbulkbgzmFmtDecB2
import Derived.Stop.CallBack
import Derived.Stop.IfaceNil
import GoSem.ClaimData
namespace Go.Proofs.YbulkbgzmFmt
open Go.RowKit Go.Extern.Stop Go.Stop Go.Extern

/-- An interface value that is not nil is handed back. -/
def IsErr (e : Ending) : Prop := ∃ t y, e = .returned (.iface t y)

theorem call28 (args : Array Value) (w : World) : (callFunc 28 args).run Ybaf.prog w = ((FmtStop.errorf #[9, 85] #[27] args).run Ybaf.prog w).andThen fun v w' => .ok (.value v) w' :=
  run_callFunc_extern Ybaf.func28 (by kernel_rfl) (by kernel_rfl) (by kernel_rfl) (by kernel_rfl) args w
theorem guardF (name : String) (w : World) : (FmtStop.guard name).run Ybaf.prog w = .ok () w := by kernel_rfl
theorem fmtA (w : World) : (FmtDoors.printed ⟨#[117, 110, 107, 110, 111, 119, 110, 32, 119, 114, 105, 116, 101, 32, 107, 105, 110, 100, 32, 37, 100]⟩ 1).run Ybaf.prog w = .ok [(0, 100, false)] w := by kernel_rfl
theorem fmtB (w : World) : (FmtDoors.printed ⟨#[37, 119, 58, 32, 37, 100, 32, 98, 121, 116, 101, 115, 44, 32, 108, 105, 109, 105, 116, 32, 37, 100]⟩ 3).run Ybaf.prog w = .ok [(0, 119, false), (1, 100, false), (2, 100, false)] w := by kernel_rfl
def shape3 : List UInt8 := [5, 3, 0, 0, 0, 0, 0, 0, 0, 105, 110, 116]
theorem op3 (name : String) (x : Int) (w : World) : (FmtStop.operand name true 100 false (.iface 3 (.int .i64 x))).run Ybaf.prog w = .ok (shape3, Go.Extern.Stop.digits 8 (x % 2 ^ 64).toNat) w := by kernel_rfl
def shape5 : List UInt8 := [6, 5, 0, 0, 0, 0, 0, 0, 0, 117, 105, 110, 116, 56]
theorem op5 (name : String) (x : Int) (w : World) : (FmtStop.operand name true 100 false (.iface 5 (.int .u8 x))).run Ybaf.prog w = .ok (shape5, Go.Extern.Stop.digits 8 (x % 2 ^ 64).toNat) w := by kernel_rfl
theorem ptr99 (w : World) : (FmtStop.ptrTo "errors.errorString").run Ybaf.prog w = .ok 99 w := by kernel_rfl
theorem elem99 (w : World) : (elemOf 99).run Ybaf.prog w = .ok 101 w := by kernel_rfl
theorem ptr86 (w : World) : (FmtStop.ptrTo "fmt.wrapError").run Ybaf.prog w = .ok 86 w := by kernel_rfl
theorem elem86 (w : World) : (elemOf 86).run Ybaf.prog w = .ok 155 w := by kernel_rfl
theorem isErr99 (w : World) : (FmtDoors.textMethod 99 "Error").run Ybaf.prog w = .ok true w := by kernel_rfl
theorem opPlain (name : String) (a : Addr) (s : ByteArray) (w : World) (hc : w.cell? a = some (.string s)) :
    ∃ sh, (FmtStop.operand name true 119 false (.iface 99 (.pointer (some a)))).run Ybaf.prog w = .ok (sh, s.data.toList) w := by
  have h1 : (typeStr 99).run Ybaf.prog w = .ok Ybaf.t99.str w := by kernel_rfl
  have d2 : Ybaf.t99.desc = .pointer 101 := rfl
  have d3 : Ybaf.t101.desc = .named "errors.errorString" 100 := rfl
  exact ⟨_, by simp [FmtStop.operand, h1, d2, d3, run_load, hc]; rfl⟩

set_option maxRecDepth 100000 in
set_option maxHeartbeats 400000 in
theorem errorf_kind (F : Interp) (x : Int) (blk : Nat) (w : World) (hF : F.answers w.tape) (hc0 : w.cell? ⟨blk, 0, none⟩ = some (.iface 5 (.int .u8 x))) :
    Calls Ybaf.prog 17 #[.string ⟨#[117, 110, 107, 110, 111, 119, 110, 32, 119, 114, 105, 116, 101, 32, 107, 105, 110, 100, 32, 37, 100]⟩, .slice (some ⟨blk, 0, none⟩) 1 1] w fun e w' =>
      IsErr e ∧ Below w.heap.size w w' := by
  have hF' := answers_open hF
  have c28 := call28
  have g := guardF
  have fA := fmtA
  have o5 := op5
  have p99 := ptr99
  have e99 := elem99
  go_enter Ybaf.func17, Ybaf.ntmps17
  go_wp2
  go_ret
  exact ⟨⟨_, _, rfl⟩, ((Below.refl _ _).alloc (Nat.le_refl _) _).drew⟩

/-- The three sentinels lie where the program's text lays them: each an error of errors.New's make. -/
def Sen (w : World) : Prop := ∀ g, g < 3 → ∃ a s, w.cell? ⟨g, 0, none⟩ = some (.iface 99 (.pointer (some a))) ∧ w.cell? a = some (.string s)
theorem Sen.below {w w' : World} (h : Sen w) (hb : Below w.heap.size w w') : Sen w' := by
  intro g hg
  obtain ⟨a, s, h1, h2⟩ := h g hg
  exact ⟨a, s, (hb.cell (World.block_lt_of_cell? _ _ h1)).trans h1, (hb.cell (World.block_lt_of_cell? _ _ h2)).trans h2⟩

set_option maxRecDepth 100000 in
set_option maxHeartbeats 400000 in
theorem errorf_size (F : Interp) (x y : Int) (a : Addr) (s : ByteArray) (blk : Nat) (w : World) (hF : F.answers w.tape) (hc0 : w.cell? ⟨blk, 0, none⟩ = some (.iface 99 (.pointer (some a))))
    (hc1 : w.cell? ⟨blk, 1, none⟩ = some (.iface 3 (.int .i64 x))) (hc2 : w.cell? ⟨blk, 2, none⟩ = some (.iface 3 (.int .i64 y))) (hs : w.cell? a = some (.string s)) :
    Calls Ybaf.prog 17 #[.string ⟨#[37, 119, 58, 32, 37, 100, 32, 98, 121, 116, 101, 115, 44, 32, 108, 105, 109, 105, 116, 32, 37, 100]⟩, .slice (some ⟨blk, 0, none⟩) 3 3] w fun e w' =>
      IsErr e ∧ Below w.heap.size w w' := by
  have hF' := answers_open hF
  obtain ⟨sh, hop⟩ := opPlain "fmt.errorf" a s w hs
  have c28 := call28
  have g := guardF
  have fB := fmtB
  have o3 := op3
  have p86 := ptr86
  have e86 := elem86
  have i99 := isErr99
  go_enter Ybaf.func17, Ybaf.ntmps17
  go_wp2
  go_ret
  exact ⟨⟨_, _, rfl⟩, ((Below.refl _ _).alloc (Nat.le_refl _) _).drew⟩

set_option maxRecDepth 100000 in
set_option maxHeartbeats 400000 in
theorem checkSize_err (F : Interp) (x y : Int) (a : Addr) (s : ByteArray) (w : World) (hF : F.answers w.tape) (hs : w.cell? a = some (.string s)) (hxy : y < x) :
    Calls Ybaf.prog 27 #[.int .i64 x, .int .i64 y, .iface 99 (.pointer (some a))] w fun e w' => IsErr e ∧ Below w.heap.size w w' := by
  have hs2 : ∀ o, (w.alloc o).cell? a = some (.string s) := fun o => (World.cell?_alloc_lt _ _ _ (World.block_lt_of_cell? _ _ hs)).trans hs
  go_enter Ybaf.func27, Ybaf.ntmps27
  go_wp2_with fail
  refine (errorf_size F x y a s _ _ (by exact hF) (by go_simp) (by go_simp) (by go_simp) (hs2 _)).mono ?_
  rintro e w1 ⟨⟨t, z, rfl⟩, hb⟩
  have HB : Hid (Below w.heap.size w w1) := ((Below.refl w.heap.size w).alloc (Nat.le_refl _) _).trans (hb.mono (by simp))
  clear hb
  go_wp2
  go_ret
  exact ⟨⟨_, _, rfl⟩, HB.out⟩

theorem checkKey_err (F : Interp) {w : World} {ad : Option Addr} {n c : Nat} (hF : F.answers w.tape) (hS : Sen w) (hn : n ≤ 1099511627776) (h : n = 0 ∨ 4096 < n) :
    Calls Ybaf.prog 15 #[.slice ad n c] w fun e w' => IsErr e ∧ Below w.heap.size w w' := by
  by_cases h0 : n = 0
  · subst h0
    obtain ⟨a, s, hc, hs⟩ := hS 0 (by omega)
    go_enter Ybaf.func15, Ybaf.ntmps15
    go_wp2
    go_ret
    exact ⟨⟨_, _, rfl⟩, Below.refl _ _⟩
  · have h1 : (4096 : Int) < (n : Int) := by omega
    have h2 : ((n : Int) == 0) = false := by simp; omega
    obtain ⟨a, s, hc, hs⟩ := hS 1 (by omega)
    go_enter Ybaf.func15, Ybaf.ntmps15
    go_wp2_with fail
    refine (checkSize_err F _ _ a s _ (by exact hF) hs h1).mono ?_
    rintro e w1 ⟨⟨t, z, rfl⟩, hb⟩
    have HB : Hid (Below w.heap.size w w1) := hb
    clear hb
    go_wp2
    go_ret
    exact ⟨⟨_, _, rfl⟩, HB.out⟩

theorem checkValue_err (F : Interp) {w : World} {ad : Option Addr} {n c : Nat} (hF : F.answers w.tape) (hS : Sen w) (hn : n ≤ 1099511627776) (h : 16777216 < n) :
    Calls Ybaf.prog 16 #[.slice ad n c] w fun e w' => IsErr e ∧ Below w.heap.size w w' := by
  have h1 : (16777216 : Int) < (n : Int) := by omega
  obtain ⟨a, s, hc, hs⟩ := hS 2 (by omega)
  go_enter Ybaf.func16, Ybaf.ntmps16
  go_wp2_with fail
  refine (checkSize_err F _ _ a s _ (by exact hF) hs h1).mono ?_
  rintro e w1 ⟨⟨t, z, rfl⟩, hb⟩
  have HB : Hid (Below w.heap.size w w1) := hb
  clear hb
  go_wp2
  go_ret
  exact ⟨⟨_, _, rfl⟩, HB.out⟩

end Go.Proofs.YbulkbgzmFmt
