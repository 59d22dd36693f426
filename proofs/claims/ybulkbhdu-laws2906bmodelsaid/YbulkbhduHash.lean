/-
  ctph.Hash IN MEMORY: one block of 2134 cells, known where the law looks; 'New'.
-/
import Derived.Test.YbulkbhduProg
import Derived.WalkKit
import Derived.ProofKit
import Derived.Below
import Derived.KernelRfl
import Derived.Deep.MidRow
import Derived.ChangeKeysEq
import Derived.Laws.StructEq
import Derived.Deep.DeepCutAuto
import Derived.Deep.QuietTactic
import Derived.BigQuiet
import Derived.Deep.Draws
import Derived.WalkSmall
namespace Go.Proofs.Ybulkbhdu
open Go.RowKit
set_option linter.unusedVariables false

theorem wpList_build_is {P : Program} {ops : Array Oper} {rest : List Oper} {o : Oper} {a : Act} {w : World} {Q : Exit → Act → World → Prop} (hg : o.guard = none) (t : TypeId) (parts : Array (Nat × Operand)) (ho : o.op = .build t parts)
    (cells : Array Value) (hf : P.built t (parts.map fun (i, x) => (i, a.eval x)).toList = some cells) (h : wpList P ops Q rest (a.put o.dst (.agg cells)) w) : wpList P ops Q (o :: rest) a w :=
  wpList_build hg t parts ho (by rw [hf]; rfl) (by rw [hf]; exact h)

/-- The cells that the law looks at: size, p, q, count, lo, hi. -/
def HashIs (C : Array Value) (sz : Int) (cnt : Nat → Int) (lo : Int) : Prop :=
  C.size = 2134 ∧ C[0]? = some (.int .u64 sz) ∧ (∀ j, j < 4 → C[11 + j]? = some (.int .u64 2821266740684990247)) ∧ (∀ j, j < 4 → C[15 + j]? = some (.int .u64 2821266740684990247)) ∧
    (∀ j, j < 32 → C[2035 + j]? = some (.int .i64 (cnt j))) ∧ C[2067]? = some (.int .i64 lo) ∧ C[2068]? = some (.int .i64 31)

theorem all_of_map {α : Type} {n : Nat} {f : Nat → α} {x : α} (h : (List.range n).map f = List.replicate n x) (j : Nat) (hj : j < n) : f j = x := by
  have : ((List.range n).map f)[j]? = (List.replicate n x)[j]? := by rw [h]
  simpa [hj] using this

theorem new_cells : ∃ C, Yba.prog.built 35 [(5, .agg #[.int .u64 2821266740684990247, .int .u64 2821266740684990247, .int .u64 2821266740684990247, .int .u64 2821266740684990247]), (6, .agg #[.int .u64 2821266740684990247, .int .u64 2821266740684990247, .int .u64 2821266740684990247, .int .u64 2821266740684990247]), (10, .int .i64 31)] = some C ∧
    HashIs C 0 (fun _ => 0) 0 := by
  refine ⟨(Yba.prog.built 35 [(5, .agg #[.int .u64 2821266740684990247, .int .u64 2821266740684990247, .int .u64 2821266740684990247, .int .u64 2821266740684990247]), (6, .agg #[.int .u64 2821266740684990247, .int .u64 2821266740684990247, .int .u64 2821266740684990247, .int .u64 2821266740684990247]), (10, .int .i64 31)]).getD #[], by kernel_rfl, by kernel_rfl, by kernel_rfl, all_of_map (by kernel_rfl), all_of_map (by kernel_rfl), all_of_map (by kernel_rfl), by kernel_rfl, by kernel_rfl⟩

set_option maxRecDepth 100000 in
theorem new_any (w : World) : Calls Yba.prog 4 #[] w fun e w' => ∃ C, HashIs C 0 (fun _ => 0) 0 ∧ e = .returned (.pointer (some ⟨w.heap.size, 0, none⟩)) ∧ w' = w.alloc (.cells C 35) := by
  obtain ⟨C, hC, hH⟩ := new_cells
  have HC := hC
  have HH : Hid (HashIs C 0 (fun _ => 0) 0) := hH
  clear hC hH
  go_enter Yba.func4, Yba.ntmps4
  go_wp2_with (refine wpList_build_is rfl 35 #[(5, .tmp 6), (6, .tmp 11), (10, .const (.int .i64 31))] rfl C (by simpa [Act.eval] using HC) ?_)
  go_ret
  exact ⟨C, HH.out, rfl, rfl⟩

theorem pow_le (k : Nat) (hk : k ≤ 30) : (0 : Int) < 2 ^ k ∧ (2 : Int) ^ k ≤ 1073741824 := by
  have h1 : 2 ^ k ≤ 2 ^ 30 := Nat.pow_le_pow_right (by omega) hk
  have h2 : 0 < 2 ^ k := Nat.two_pow_pos k
  have e : ((2 ^ k : Nat) : Int) = (2 : Int) ^ k := by simp
  omega

set_option maxRecDepth 100000 in
theorem blockSize_any (k : Nat) (hk : k ≤ 30) (w : World) : Calls Yba.prog 6 #[.int .i64 k] w fun e w' => e = .returned (.int .u64 (3 * 2 ^ k)) ∧ w' = w := by
  have h := pow_le k hk
  have hw : IntKind.u64.wrap (3 * 2 ^ k) = 3 * 2 ^ k := by simp [IntKind.wrap, IntKind.signed, IntKind.bits]; omega
  go_enter Yba.func6, Yba.ntmps6
  go_wp2
  go_ret
  exact ⟨rfl, rfl⟩

/-! ### the block, in a world -/
def HashAt (X : World) (b : Nat) (sz : Int) (cnt : Nat → Int) (lo : Int) : Prop := ∃ C, X.heap[b]? = some (.cells C 35 (0, 0)) ∧ HashIs C sz cnt lo
theorem HashAt.free {X : World} {b : Nat} {sz lo : Int} {cnt : Nat → Int} (h : HashAt X b sz cnt lo) (j : Nat) : X.frozen? ⟨b, j, none⟩ = false := by
  obtain ⟨C, h1, _⟩ := h; simp [World.frozen?, h1]
theorem HashAt.size {X : World} {b : Nat} {sz lo : Int} {cnt : Nat → Int} (h : HashAt X b sz cnt lo) : X.cell? ⟨b, 0, none⟩ = some (.int .u64 sz) := by
  obtain ⟨C, h1, h2⟩ := h; simp [World.cell?, h1, h2.2.1]
theorem HashAt.lo {X : World} {b : Nat} {sz lo : Int} {cnt : Nat → Int} (h : HashAt X b sz cnt lo) : X.cell? ⟨b, 2067, none⟩ = some (.int .i64 lo) := by
  obtain ⟨C, h1, h2⟩ := h; simp [World.cell?, h1, h2.2.2.2.2.2.1]
theorem HashAt.hi {X : World} {b : Nat} {sz lo : Int} {cnt : Nat → Int} (h : HashAt X b sz cnt lo) : X.cell? ⟨b, 2068, none⟩ = some (.int .i64 31) := by
  obtain ⟨C, h1, h2⟩ := h; simp [World.cell?, h1, h2.2.2.2.2.2.2]
theorem HashAt.count {X : World} {b : Nat} {sz lo : Int} {cnt : Nat → Int} (h : HashAt X b sz cnt lo) (j : Nat) (hj : j < 32) : X.cell? ⟨b, 2035 + j, none⟩ = some (.int .i64 (cnt j)) := by
  obtain ⟨C, h1, h2⟩ := h; simp [World.cell?, h1, h2.2.2.2.2.1 j hj]
theorem HashAt.p {X : World} {b : Nat} {sz lo : Int} {cnt : Nat → Int} (h : HashAt X b sz cnt lo) (j : Nat) (hj : j < 4) : X.cell? ⟨b, 11 + j, none⟩ = some (.int .u64 2821266740684990247) := by
  obtain ⟨C, h1, h2⟩ := h; simp [World.cell?, h1, h2.2.2.1 j hj]
theorem HashAt.q {X : World} {b : Nat} {sz lo : Int} {cnt : Nat → Int} (h : HashAt X b sz cnt lo) (j : Nat) (hj : j < 4) : X.cell? ⟨b, 15 + j, none⟩ = some (.int .u64 2821266740684990247) := by
  obtain ⟨C, h1, h2⟩ := h; simp [World.cell?, h1, h2.2.2.2.1 j hj]
theorem HashAt.setLo {X : World} {b : Nat} {sz lo x : Int} {cnt : Nat → Int} (h : HashAt X b sz cnt lo) : HashAt (X.setCell ⟨b, 2067, none⟩ (.int .i64 x)) b sz cnt x := by
  obtain ⟨C, h1, h2, h3, h4, h5, h6, h7, h8⟩ := h
  refine ⟨_, heap_setCell_same X b 2067 C 35 _ h1, by simpa using h2, ?_, fun j hj => ?_, fun j hj => ?_, fun j hj => ?_, ?_, ?_⟩
  · rw [Array.getElem?_setIfInBounds_ne (by omega)]; exact h3
  · rw [Array.getElem?_setIfInBounds_ne (by omega)]; exact h4 j hj
  · rw [Array.getElem?_setIfInBounds_ne (by omega)]; exact h5 j hj
  · rw [Array.getElem?_setIfInBounds_ne (by omega)]; exact h6 j hj
  · rw [Array.getElem?_setIfInBounds_self_of_lt (by omega)]
  · rw [Array.getElem?_setIfInBounds_ne (by omega)]; exact h8
theorem HashAt.setSize {X : World} {b : Nat} {sz lo x : Int} {cnt : Nat → Int} (h : HashAt X b sz cnt lo) : HashAt (X.setCell ⟨b, 0, none⟩ (.int .u64 x)) b x cnt lo := by
  obtain ⟨C, h1, h2, h3, h4, h5, h6, h7, h8⟩ := h
  refine ⟨_, heap_setCell_same X b 0 C 35 _ h1, by simpa using h2, ?_, fun j hj => ?_, fun j hj => ?_, fun j hj => ?_, ?_, ?_⟩
  · rw [Array.getElem?_setIfInBounds_self_of_lt (by omega)]
  · rw [Array.getElem?_setIfInBounds_ne (by omega)]; exact h4 j hj
  · rw [Array.getElem?_setIfInBounds_ne (by omega)]; exact h5 j hj
  · rw [Array.getElem?_setIfInBounds_ne (by omega)]; exact h6 j hj
  · rw [Array.getElem?_setIfInBounds_ne (by omega)]; exact h7
  · rw [Array.getElem?_setIfInBounds_ne (by omega)]; exact h8
theorem HashAt.setCount {X : World} {b : Nat} {sz lo x : Int} {cnt : Nat → Int} (h : HashAt X b sz cnt lo) (i : Nat) (hi : i < 32) : HashAt (X.setCell ⟨b, 2035 + i, none⟩ (.int .i64 x)) b sz (fun j => if j = i then x else cnt j) lo := by
  obtain ⟨C, h1, h2, h3, h4, h5, h6, h7, h8⟩ := h
  refine ⟨_, heap_setCell_same X b (2035 + i) C 35 _ h1, by simpa using h2, ?_, fun j hj => ?_, fun j hj => ?_, fun j hj => ?_, ?_, ?_⟩
  · rw [Array.getElem?_setIfInBounds_ne (by omega)]; exact h3
  · rw [Array.getElem?_setIfInBounds_ne (by omega)]; exact h4 j hj
  · rw [Array.getElem?_setIfInBounds_ne (by omega)]; exact h5 j hj
  · by_cases e : j = i
    · subst e; rw [Array.getElem?_setIfInBounds_self_of_lt (by omega)]; simp
    · rw [Array.getElem?_setIfInBounds_ne (by omega)]; simp only [if_neg e]; exact h6 j hj
  · rw [Array.getElem?_setIfInBounds_ne (by omega)]; exact h7
  · rw [Array.getElem?_setIfInBounds_ne (by omega)]; exact h8
theorem HashAt.other {X Y : World} {b : Nat} {sz lo : Int} {cnt : Nat → Int} (h : HashAt X b sz cnt lo) (e : Y.heap[b]? = X.heap[b]?) : HashAt Y b sz cnt lo := by
  obtain ⟨C, h1, h2⟩ := h; exact ⟨C, e.trans h1, h2⟩

/-- Nothing but block b may be another. -/
def Sm (b : Nat) (w w' : World) : Prop := w'.os = w.os ∧ w'.tape = w.tape ∧ w'.output = w.output ∧ w'.heap.size = w.heap.size ∧ ∀ g, g ≠ b → w'.heap[g]? = w.heap[g]?
theorem Sm.refl (b : Nat) (w : World) : Sm b w w := ⟨rfl, rfl, rfl, rfl, fun _ _ => rfl⟩
theorem Sm.set {b j : Nat} {w w' : World} {x : Value} (h : Sm b w w') : Sm b w (w'.setCell ⟨b, j, none⟩ x) :=
  ⟨h.1, h.2.1, h.2.2.1, by rw [← h.2.2.2.1]; simp [World.setCell], fun g hg => (Below.heap_setCell w' ⟨b, j, none⟩ x g hg).trans (h.2.2.2.2 g hg)⟩
theorem Sm.drewN {b : Nat} {w w' : World} (h : Sm b w w') (m : Nat) : Sm b w (w'.drewN m) := h
theorem Sm.below {B b : Nat} {a w w' : World} (h : Sm b w w') (hb : Below B a w) (hB : B ≤ b) : Below B a w' :=
  hb.trans ⟨h.1, h.2.1, h.2.2.1, by rw [h.2.2.2.1]; exact Nat.le_refl _, fun g hg => h.2.2.2.2 g (by omega)⟩

/-- At level j 'forget' must stop. -/
def Must (cnt : Nat → Int) (Z : Int) (j : Nat) : Prop := cnt (j + 1) < 32 ∨ Z ≤ 192 * 2 ^ j

def loOf (X : World) (b : Nat) : Nat := match X.cell? ⟨b, 2067, none⟩ with | some (.int _ n) => n.toNat | _ => 0
theorem loOf_is {X : World} {b : Nat} {sz : Int} {cnt : Nat → Int} {lo : Nat} (h : HashAt X b sz cnt lo) : loOf X b = lo := by unfold loOf; rw [h.lo]; simp

set_option maxRecDepth 100000 in
set_option maxHeartbeats 2000000 in
theorem forget_any (b lo want : Nat) (Z : Int) (cnt : Nat → Int) (w : World) (h : HashAt w b Z cnt lo) (hZ : 0 ≤ Z ∧ Z < 18446744073709551616) (h1 : lo ≤ want) (h2 : want ≤ 30)
    (h3 : ∀ j, lo ≤ j → j < want → ¬ Must cnt Z j) (h4 : want = 30 ∨ Must cnt Z want) :
    Calls Yba.prog 5 #[.pointer (some ⟨b, 0, none⟩)] w fun e w' => e = .returned (.tuple #[]) ∧ HashAt w' b Z cnt want ∧ Sm b w w' := by
  have H0 : Hid (HashAt w b Z cnt lo ∧ Sm b w w) := ⟨h, Sm.refl _ _⟩
  have H3 : Hid (∀ j, lo ≤ j → j < want → ¬ Must cnt Z j) := h3
  have H4 : Hid (want = 30 ∨ Must cnt Z want) := h4
  clear h h3 h4
  go_enter Yba.func5, Yba.ntmps5
  go_wp2
  go_loopw [33] (fun _ wr => ∃ l : Nat, lo ≤ l ∧ l ≤ want ∧ Hid (HashAt wr b Z cnt l ∧ Sm b w wr)) (fun _ wr => want - loOf wr b)
  case atStart => exact ⟨lo, Nat.le_refl _, h1, H0⟩
  case round =>
    clear H0
    obtain ⟨l, hl1, hl2, HX⟩ := hrel
    have c1 : wr.cell? ⟨b, 2067, none⟩ = some (.int .i64 l) := HX.out.1.lo
    have c2 : wr.cell? ⟨b, 0, none⟩ = some (.int .u64 Z) := HX.out.1.size
    have hpl := pow_le l (by omega)
    have HFn : Hid (∀ m, HashAt (wr.drewN m) b Z cnt l ∧ Sm b w (wr.drewN m)) := fun m => ⟨HX.out.1.other rfl, HX.out.2.drewN m⟩
    by_cases hA : l = 30
    · obtain rfl : want = l := by omega
      have hd : decide ((want : Int) + 1 < 31) = false := decide_eq_false (by omega)
      clear HX
      go_upto_region 0 with (fail)
      go_quiet (fail)
      go_wp2
      go_end0
      exact ⟨rfl, HFn.out _⟩
    · have hA' : (l : Int) + 1 < 31 := by omega
      have c3 : wr.cell? ⟨b, 2035 + (l + 1), none⟩ = some (.int .i64 (cnt (l + 1))) := HX.out.1.count (l + 1) (by omega)
      have hi1 : (l : Int) + 1 < 32 := by omega
      by_cases hM : Must cnt Z l
      · have hlw : l = want := by
          rcases Nat.lt_or_ge l want with h | h
          · exact absurd hM (H3.out l hl1 h)
          · omega
        subst hlw
        by_cases hC : cnt (l + 1) < 32
        · have hd : decide ((32 : Int) ≤ cnt (l + 1)) = false := decide_eq_false (by omega)
          clear HX hM
          go_upto_region 0 with (fail)
          go_quiet (fail)
          go_wp2
          go_end0
          exact ⟨rfl, HFn.out _⟩
        · have hC' : (32 : Int) ≤ cnt (l + 1) := by omega
          have hZ' : Z ≤ 192 * 2 ^ l := by rcases hM with h | h
                                           · exact absurd h hC
                                           · exact h
          have hw : IntKind.u64.wrap (3 * 2 ^ l * 64) = 192 * 2 ^ l := by simp [IntKind.wrap, IntKind.signed, IntKind.bits]; omega
          have hd : decide ((192 * 2 ^ l : Int) < Z) = false := decide_eq_false (by omega)
          clear HX hM
          go_upto_region 0 with (fail)
          go_quiet ((go_at_call 6; exact Calls.quiet_of_same (blockSize_any l (by omega) _)))
          go_wp2
          go_end0
          exact ⟨rfl, HFn.out _⟩
      · have hC' : (32 : Int) ≤ cnt (l + 1) := by unfold Must at hM; omega
        have hZ' : (192 * 2 ^ l : Int) < Z := by unfold Must at hM; omega
        have hw : IntKind.u64.wrap (3 * 2 ^ l * 64) = 192 * 2 ^ l := by simp [IntKind.wrap, IntKind.signed, IntKind.bits]; omega
        have hlw : l < want := by
          rcases Nat.lt_or_ge l want with h | h
          · exact h
          · obtain rfl : l = want := by omega
            rcases H4.out with h | h
            · exact absurd h hA
            · exact absurd h hM
        have hlo : loOf wr b = l := loOf_is HX.out.1
        clear HX hM
        go_upto_region 0 with (fail)
        go_quiet ((go_at_call 6; exact Calls.quiet_of_same (blockSize_any l (by omega) _)))
        obtain ⟨W, hW⟩ : ∃ W, W = wr.drewN nq := ⟨_, rfl⟩
        have x1 : W.cell? ⟨b, 2067, none⟩ = some (.int .i64 l) := by rw [hW]; exact c1
        have HW : Hid (HashAt W b Z cnt l ∧ Sm b w W) := by rw [hW]; exact HFn.out _
        rw [← hW]
        clear hW HFn c1 c2 c3
        have f1 : W.frozen? ⟨b, 2067, none⟩ = false := HW.out.1.free _
        have HN : Hid (HashAt (W.setCell ⟨b, 2067, none⟩ (.int .i64 ((l : Int) + 1))) b Z cnt ((l : Int) + 1) ∧ Sm b w (W.setCell ⟨b, 2067, none⟩ (.int .i64 ((l : Int) + 1)))) := ⟨HW.out.1.setLo, HW.out.2.set⟩
        have hlo2 : loOf (W.setCell ⟨b, 2067, none⟩ (.int .i64 ((l : Int) + 1))) b = l + 1 := loOf_is (lo := l + 1) (by have := HN.out.1; simpa using this)
        clear HW
        go_wp2
        go_roundw
        case rel => exact ⟨l + 1, by omega, by omega, by simpa using HN⟩
        case measure => rw [hlo2, hlo]; omega

end Go.Proofs.Ybulkbhdu
