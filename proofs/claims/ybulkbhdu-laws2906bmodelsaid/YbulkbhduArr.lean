/-
  WHOLE ARRAYS BY VALUE: read, laid aside, compared with themselves.
-/
import Derived.Test.YbulkbhduHash
namespace Go.Proofs.Ybulkbhdu
open Go.RowKit
set_option linter.unusedVariables false

theorem eqItems_same {P : Program} {w : World} {e : TypeId} {k : IntKind} (he : P.underlying e = some (.int k)) (hp : P.plainKey e = true) (xs : Array Value) (d : Nat) :
    ∀ is : List Nat, (∀ i ∈ is, ∃ n, xs[i]? = some (.int k n)) → (Op.eqItems (d + 1) e 1 xs xs is).run P w = .ok true w
  | [], _ => by simp [Op.eqItems]
  | i :: is, h => by
    obtain ⟨n, hn⟩ := h i (by simp)
    have h1 : (part e xs (i * 1)).run P w = .ok (.int k n) w := run_part_plain w hp (by rw [Nat.mul_one]; exact hn)
    have ih := eqItems_same (w := w) he hp xs d is (fun j hj => h j (by simp [hj]))
    simp only [Op.eqItems, Sem.run_bind, h1, Result.andThen_ok, run_equalIn_int w d e k k n n he]
    simp [ih]

theorem neq_same {P : Program} {t e : TypeId} {n : Nat} {k : IntKind} {i : TypeInfo} (hu : P.underlying t = some (.array n e)) (he : P.underlying e = some (.int k)) (hi : P.info? e = some i) (hc : P.cellsOf e = 1) (hp : P.plainKey e = true)
    (xs : Array Value) (h : ∀ j, j < n → ∃ z, xs[j]? = some (.int k z)) (w : World) : (binOp .neq t (.agg xs) (.agg xs)).run P w = .ok (.bool false) w := by
  rw [run_neq_struct, run_equalIn_array w 9999 xs xs hu hi, hc, eqItems_same he hp xs 9998 (List.range n) (fun j hj => h j (List.mem_range.1 hj))]
  rfl

/-- A row of integers of one kind. -/
def Ints (k : IntKind) (n : Nat) (K : Array Value) : Prop := K.size = n ∧ ∀ j, j < n → ∃ z, K[j]? = some (.int k z)
theorem Ints.one {k : IntKind} {n : Nat} {K : Array Value} (h : Ints k n K) : K.all (·.oneCell') = true := by
  rw [Array.all_eq_true]
  intro j hj
  obtain ⟨z, hz⟩ := h.2 j (by rw [← h.1]; exact hj)
  rw [Array.getElem?_eq_getElem hj] at hz
  rw [Option.some.inj hz]; rfl
theorem neq31 (K : Array Value) (h : Ints .i64 32 K) (w : World) : (binOp .neq 31 (.agg K) (.agg K)).run Yba.prog w = .ok (.bool false) w := by
  obtain ⟨i, hi⟩ : ∃ i, Yba.prog.info? 3 = some i := Option.isSome_iff_exists.1 (by kernel_rfl)
  exact neq_same Yba.underlying31 Yba.underlying3 hi (by kernel_rfl) (by kernel_rfl) K h.2 w
theorem neq28 (K : Array Value) (h : Ints .u64 4 K) (w : World) : (binOp .neq 28 (.agg K) (.agg K)).run Yba.prog w = .ok (.bool false) w := by
  obtain ⟨i, hi⟩ : ∃ i, Yba.prog.info? 23 = some i := Option.isSome_iff_exists.1 (by kernel_rfl)
  exact neq_same Yba.underlying28 Yba.underlying23 hi (by kernel_rfl) (by kernel_rfl) K h.2 w

/-- K lies in block b from o on. -/
def Lie (X : World) (b o : Nat) (K : Array Value) : Prop := X.rangeAt b o K.toList
theorem load31 {X : World} {b o : Nat} {K : Array Value} (h : Lie X b o K) (hK : Ints .i64 32 K) : (Instr.loadAt 31 (.pointer (some ⟨b, o, none⟩))).run Yba.prog X = .ok (.agg K) X := by
  have := run_loadAt_mid (P := Yba.prog) X b o 31 K.toList (.array 32 3) h Yba.underlying31 rfl (by rw [Array.length_toList, hK.1]; kernel_rfl)
  simpa using this
theorem load28 {X : World} {b o : Nat} {K : Array Value} (h : Lie X b o K) (hK : Ints .u64 4 K) : (Instr.loadAt 28 (.pointer (some ⟨b, o, none⟩))).run Yba.prog X = .ok (.agg K) X := by
  have := run_loadAt_mid (P := Yba.prog) X b o 28 K.toList (.array 4 23) h Yba.underlying28 rfl (by rw [Array.length_toList, hK.1]; kernel_rfl)
  simpa using this
theorem Lie.new {X : World} {b : Nat} {K : Array Value} {t : TypeId} (h : X.heap[b]? = some (.cells K t (0, 0))) : Lie X b 0 K := by
  intro j v hj
  simp only [World.cell?, h, Nat.zero_add]
  simpa using hj

def cntA (cnt : Nat → Int) : Array Value := ((List.range 32).map fun j => Value.int .i64 (cnt j)).toArray
theorem cntA_ints (cnt : Nat → Int) : Ints .i64 32 (cntA cnt) := ⟨by simp [cntA], fun j hj => ⟨cnt j, by simp [cntA, hj]⟩⟩
theorem HashAt.cntLie {X : World} {b : Nat} {sz lo : Int} {cnt : Nat → Int} (h : HashAt X b sz cnt lo) : Lie X b 2035 (cntA cnt) := by
  intro j v hj
  have hj' : j < 32 := by
    rcases Nat.lt_or_ge j 32 with h | h
    · exact h
    · rw [List.getElem?_eq_none (by simp [cntA]; omega)] at hj; cases hj
  rw [h.count j hj']
  simpa [cntA, hj'] using hj
def pA : Array Value := ((List.range 4).map fun j => Value.int .u64 ((fun _ : Nat => (2821266740684990247 : Int)) j)).toArray
theorem pA_ints : Ints .u64 4 pA := ⟨by simp [pA], fun j hj => ⟨2821266740684990247, by rcases j with _ | _ | _ | _ | j <;> first | rfl | omega⟩⟩
theorem HashAt.pLie {X : World} {b : Nat} {sz lo : Int} {cnt : Nat → Int} (h : HashAt X b sz cnt lo) : Lie X b 11 pA := by
  intro j v hj
  have hj' : j < 4 := by
    rcases Nat.lt_or_ge j 4 with h | h
    · exact h
    · rw [List.getElem?_eq_none (by simp [pA]; omega)] at hj; cases hj
  rw [h.p j hj']
  rw [← hj]
  rcases j with _ | _ | _ | _ | j <;> first | rfl | omega
theorem HashAt.qLie {X : World} {b : Nat} {sz lo : Int} {cnt : Nat → Int} (h : HashAt X b sz cnt lo) : Lie X b 15 pA := by
  intro j v hj
  have hj' : j < 4 := by
    rcases Nat.lt_or_ge j 4 with h | h
    · exact h
    · rw [List.getElem?_eq_none (by simp [pA]; omega)] at hj; cases hj
  rw [h.q j hj']
  rw [← hj]
  rcases j with _ | _ | _ | _ | j <;> first | rfl | omega

/-! ### the walk's steps at a whole array -/
theorem wpList_load_is {P : Program} {ops : Array Oper} {rest : List Oper} {op : Oper} {a : Act} {w : World} {Q : Exit → Act → World → Prop} (hgd : op.guard = none) (ty : TypeId) (x : Operand) (ho : op.op = .load ty x)
    (p v : Value) (hx : a.eval x = p) (hv : (Instr.loadAt ty p).run P w = .ok v w) (h : wpList P ops Q rest (a.put op.dst v) w) : wpList P ops Q (op :: rest) a w :=
  wpList_plain hgd fun _ hK => by
    unfold Oper.wp execOp
    simp only [ho, hx, Sem.run_bind, hv, Result.andThen_ok]
    exact hK _ _ h
theorem quiet_load_is {P : Program} {C : World → Prop} {op : Oper} {a : Act} {K : Act → Prop} (ty : TypeId) (x : Operand) (ho : op.op = .load ty x)
    (p v : Value) (hx : a.eval x = p) (hv : ∀ w, C w → (Instr.loadAt ty p).run P w = .ok v w) (hk : K (a.put op.dst v)) : op.quiet P a C K :=
  ⟨v, fun w hw => by
    unfold Oper.quietAt execOp
    simp only [ho, hx, Sem.run_bind, hv w hw, Result.andThen_ok]
    exact ⟨rfl, rfl⟩, hk⟩
theorem below_put (X : World) (o : Obj) (K : Array Value) : Below X.heap.size X ((X.alloc o).setRow X.heap.size K) :=
  ⟨rfl, rfl, rfl, by simp, fun g hg => (setRow_other _ _ _ _ (by omega)).trans (Below.heap_alloc X o g hg)⟩

theorem wpList_store_new {P : Program} {ops : Array Oper} {rest : List Oper} {o : Oper} {a : Act} {Q : Exit → Act → World → Prop} (X : World) (old : Array Value) (t : TypeId) (hgd : o.guard = none) (x y : Operand) (ho : o.op = .store t x y)
    (cells : Array Value) (hx : a.eval x = .pointer (some ⟨X.heap.size, 0, none⟩)) (hy : a.eval y = .agg cells) (hi : (P.info? t).map (·.size) = some cells.size)
    (hold : old.size = cells.size) (h1 : cells.all (·.oneCell') = true)
    (h : ∀ Y, Below X.heap.size X Y → Y.heap[X.heap.size]? = some (.cells cells t (0, 0)) → wpList P ops Q rest (a.put o.dst undef) Y) : wpList P ops Q (o :: rest) a (X.alloc (.cells old t)) :=
  wpList_store_row hgd t x y ho X.heap.size cells hx hy t old (MapKept.heap_alloc X _).1 hi hold h1
    (h _ (below_put X _ cells) (setRow_heap _ _ _ _ _ _ (MapKept.heap_alloc X _).1))

end Go.Proofs.Ybulkbhdu
