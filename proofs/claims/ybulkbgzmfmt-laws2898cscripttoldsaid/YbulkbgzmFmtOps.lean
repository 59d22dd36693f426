/-
  THE DECODED WRITES IN MEMORY.
-/
import Derived.Test.YbulkbgzmFmtErr
namespace Go.Proofs.YbulkbgzmFmt
open Go.RowKit
set_option linter.unusedVariables false

theorem info31 : (Ybaf.prog.info? 31).map (fun i => (i.zero, i.size, i.bytes)) = some (some (.agg #[.slice none 0 0, .slice none 0 0, .bool false]), 3, 56) := by kernel_rfl

theorem ownsRow_base {w : World} {B B' e size n : Nat} {v : Value} {xs : List Value} (h : w.ownsRow B e size v n xs) (hB : B' ≤ B) : w.ownsRow B' e size v n xs := by
  obtain ⟨h1, h2⟩ := h
  refine ⟨h1, ?_⟩
  rcases h2 with h2 | ⟨g, cap, cur, hv, hg, r⟩
  · exact .inl h2
  · exact .inr ⟨g, cap, cur, hv, by omega, r⟩

/-- A slice value that owns just these bytes. -/
def Owns (w : World) (B : Nat) (v : Value) (l : List UInt8) : Prop := w.ownsRow B 5 1 v l.length (Lib.byteCells l)
theorem Owns.below {w w' : World} {B : Nat} {v : Value} {l : List UInt8} (h : Owns w B v l) (hb : Below w.heap.size w w') : Owns w' B v l := by
  obtain ⟨h1, h2⟩ := h
  refine ⟨h1, ?_⟩
  rcases h2 with h2 | ⟨g, cap, cur, hv, hg, hh, r⟩
  · exact .inl h2
  · exact .inr ⟨g, cap, cur, hv, hg, (hb.block g (lt_of_block hh)).trans hh, r⟩
theorem Owns.other {w w' : World} {B : Nat} {v u : Value} {l : List UInt8} (h : Owns w B v l) (hg : w.grownBy w' u.ownBlock) (hne : v.ownBlock = none ∨ v.ownBlock ≠ u.ownBlock) : Owns w' B v l := h.kept hg hne
theorem Owns.setCell {w : World} {B b o : Nat} {v x : Value} {l : List UInt8} {c : Array Value} (h : Owns w B v l) (hc : w.heap[b]? = some (.cells c 31 (0, 0))) : Owns (w.setCell ⟨b, o, none⟩ x) B v l := by
  obtain ⟨h1, h2⟩ := h
  refine ⟨h1, ?_⟩
  rcases h2 with h2 | ⟨g, cap, cur, hv, hg, hh, r⟩
  · exact .inl h2
  · refine .inr ⟨g, cap, cur, hv, hg, ?_, r⟩
    rw [Below.heap_setCell _ _ _ _ (fun e => ?_)]
    · exact hh
    · have e' : g = b := e
      rw [e', hc] at hh; simp at hh
/-- Rows of bytes and rows of writes lie apart: their element types differ. -/
theorem Owns.apart {w : World} {B B' n : Nat} {v u : Value} {l : List UInt8} {xs : List Value} (h : Owns w B v l) (hu : w.ownsRow B' 31 3 u n xs) : v.ownBlock = none ∨ v.ownBlock ≠ u.ownBlock := by
  rcases h.2 with ⟨rfl, _⟩ | ⟨g, cap, cur, rfl, _, hh, _⟩
  · exact .inl rfl
  · rcases hu.2 with ⟨rfl, _⟩ | ⟨g', cap', cur', rfl, _, hh', _⟩
    · exact .inr (by simp [Value.ownBlock])
    · refine .inr fun e => ?_
      simp only [Value.ownBlock, Option.some.injEq] at e
      subst e
      rw [hh] at hh'; simp at hh'

/-- One write's three cells: key, value, whether it is a delete. -/
def OpCells (w : World) (B : Nat) (o : Wr) (kv vv dv : Value) : Prop :=
  Owns w B kv o.key ∧ dv = .bool o.val.isNone ∧ (o.val = none → vv = .slice none 0 0) ∧ ∀ x, o.val = some x → Owns w B vv x

/-- All writes' cells, one behind the other. -/
def Cells (w : World) (B : Nat) : List Wr → List Value → Prop
  | [], cs => cs = []
  | o :: os, cs => ∃ kv vv dv rest, cs = kv :: vv :: dv :: rest ∧ OpCells w B o kv vv dv ∧ Cells w B os rest

theorem Cells.map {w w' : World} {B : Nat} (hk : ∀ v l, Owns w B v l → Owns w' B v l) : ∀ {os : List Wr} {cs : List Value}, Cells w B os cs → Cells w' B os cs
  | [], _, h => h
  | o :: os, _, ⟨kv, vv, dv, rest, e, ⟨h1, h2, h3, h4⟩, hr⟩ => ⟨kv, vv, dv, rest, e, ⟨hk _ _ h1, h2, h3, fun x hx => hk _ _ (h4 x hx)⟩, Cells.map hk hr⟩
theorem Cells.snoc {w : World} {B : Nat} {o : Wr} {kv vv dv : Value} (ho : OpCells w B o kv vv dv) : ∀ {os : List Wr} {cs : List Value}, Cells w B os cs → Cells w B (os ++ [o]) (cs ++ [kv, vv, dv])
  | [], _, h => by obtain rfl := h; exact ⟨kv, vv, dv, [], rfl, ho, rfl⟩
  | p :: os, _, ⟨kv', vv', dv', rest, e, h, hr⟩ => by subst e; exact ⟨kv', vv', dv', rest ++ [kv, vv, dv], rfl, h, Cells.snoc ho hr⟩
theorem Cells.at {w : World} {B : Nat} : ∀ {os : List Wr} {cs : List Value} (_ : Cells w B os cs) (i : Nat) (hi : i < os.length), ∃ kv vv dv, cs[3 * i]? = some kv ∧ cs[3 * i + 1]? = some vv ∧ cs[3 * i + 2]? = some dv ∧ OpCells w B os[i] kv vv dv
  | [], _, _, i, hi => absurd hi (by simp)
  | o :: os, _, ⟨kv, vv, dv, rest, e, h, hr⟩, 0, _ => by subst e; exact ⟨kv, vv, dv, rfl, rfl, rfl, h⟩
  | o :: os, _, ⟨kv, vv, dv, rest, e, h, hr⟩, i + 1, hi => by
    subst e
    obtain ⟨a, b, c, h1, h2, h3, h4⟩ := Cells.at hr i (by simpa using hi)
    exact ⟨a, b, c, by rw [← h1]; rfl, by rw [← h2]; rfl, by rw [← h3]; rfl, h4⟩

/-- THE WRITES THAT HAVE BEEN GATHERED. -/
def OpsAt (w : World) (B : Nat) (v : Value) (os : List Wr) : Prop := ∃ cs, w.ownsRow B 31 3 v os.length cs ∧ Cells w B os cs
theorem OpsAt.nil (w : World) (B : Nat) : OpsAt w B (.slice none 0 0) [] := ⟨[], World.ownsRow_nil _ _ _ _, rfl⟩
theorem OpsAt.below {w w' : World} {B : Nat} {v : Value} {os : List Wr} (h : OpsAt w B v os) (hb : Below w.heap.size w w') : OpsAt w' B v os := by
  obtain ⟨cs, ⟨h1, h2⟩, h3⟩ := h
  refine ⟨cs, ⟨h1, ?_⟩, h3.map fun v l h => h.below hb⟩
  rcases h2 with h2 | ⟨g, cap, cur, hv, hg, hh, r⟩
  · exact .inl h2
  · exact .inr ⟨g, cap, cur, hv, hg, (hb.block g (lt_of_block hh)).trans hh, r⟩

/-- A block of one write, known whole. -/
theorem box_there {wr w1 : World} {c : Array Value} (hb : Below (wr.alloc (.cells c 31)).heap.size (wr.alloc (.cells c 31)) w1) : w1.heap[wr.heap.size]? = some (.cells c 31 (0, 0)) :=
  (hb.block wr.heap.size (by simp)).trans (MapKept.heap_alloc wr _).1
theorem box_cell {w : World} {b : Nat} {c : Array Value} (h : w.heap[b]? = some (.cells c 31 (0, 0))) (j : Nat) : w.cell? ⟨b, j, none⟩ = c[j]? := by simp [World.cell?, h]
theorem box_free {w : World} {b : Nat} {c : Array Value} (h : w.heap[b]? = some (.cells c 31 (0, 0))) (j : Nat) : w.frozen? ⟨b, j, none⟩ = false := by simp [World.frozen?, h]
theorem box_set {w : World} {b : Nat} {c : Array Value} (h : w.heap[b]? = some (.cells c 31 (0, 0))) (j : Nat) (x : Value) : (w.setCell ⟨b, j, none⟩ x).heap[b]? = some (.cells (c.setIfInBounds j x) 31 (0, 0)) := heap_setCell_same w b j c 31 x h

/-- One write more, its cells in a new block, appended. -/
theorem OpsAt.push {W w3 : World} {B : Nat} {v v' : Value} {os : List Wr} {o : Wr} {kv vv dv : Value} {cs : List Value} (hc : Cells W B os cs) (ho : OpCells W B o kv vv dv)
    (hown : W.ownsRow B 31 3 v os.length cs) (hown' : w3.ownsRow B 31 3 v' (os.length + 1) (cs ++ [kv, vv, dv])) (hg : (W.alloc (.cells #[kv, vv, dv] 31)).grownBy w3 v.ownBlock) : OpsAt w3 B v' (os ++ [o]) := by
  have hk : ∀ u l, Owns W B u l → Owns w3 B u l := fun u l h => by
    have h1 : Owns (W.alloc (.cells #[kv, vv, dv] 31)) B u l := h.below ((Below.refl _ _).alloc (Nat.le_refl _) _)
    exact h1.other hg (h1.apart (hown.alloc _))
  refine ⟨cs ++ [kv, vv, dv], by simpa using hown', (Cells.map hk hc).snoc ⟨hk _ _ ho.1, ho.2.1, ho.2.2.1, fun x hx => hk _ _ (ho.2.2.2 x hx)⟩⟩

/-- 'ops = append(ops, o)': the write's three cells lie in a new block. -/
theorem wpList_append_op (W : World) {ops : Array Oper} {rest : List Oper} {o : Oper} {a : Act} {Q : Exit → Act → World → Prop} (hgd : o.guard = none) (s x : Operand)
    (ho : o.op = .call { callee := .builtin .append, args := #[s, x], argTypes := #[23, 23] }) (B n H : Nat) (u kv vv dv : Value) (cs : List Value) (hH : W.heap.size = H)
    (hs : a.eval s = u) (hown : W.ownsRow B 31 3 u n cs) (hx : a.eval x = .slice (some ⟨H, 0, none⟩) 1 1) (h1 : kv.oneCell' = true) (h2 : vv.oneCell' = true) (h3 : dv.oneCell' = true) (hn : n ≤ 1073741824) (hB : B ≤ W.heap.size)
    (h : ∀ v' w', w'.ownsRow B 31 3 v' (n + 1) (cs ++ [kv, vv, dv]) → (W.alloc (.cells #[kv, vv, dv] 31)).grownBy w' u.ownBlock → v' ≠ .slice none 0 0 → wpList Ybaf.prog ops Q rest (a.put o.dst v') w') :
    wpList Ybaf.prog ops Q (o :: rest) a (W.alloc (.cells #[kv, vv, dv] 31)) := by
  subst hH
  obtain ⟨i0, hi, hz0, hz1, hz2⟩ := info_parts info31
  refine wpList_append_step _ hgd s x 23 ho B 31 i0 _ 3 56 Ybaf.underlying23 hi hz0 hz1 hz2 rfl (by decide) u n cs hs (hown.alloc _) _ 1 1 [kv, vv, dv] hx (fun h => by cases h) rfl ?_ ?_ ?_ ?_ ?_ ?_
  · intro ad had j w hj
    obtain rfl := Option.some.inj had
    rw [Addr.add_lit, Nat.zero_add, World.cell?_alloc_new]
    simpa using hj
  · intro w hw
    simp at hw
    rcases hw with rfl | rfl | rfl <;> assumption
  · unfold maxLen; omega
  · omega
  · simp; omega
  · intro v' w' h1 h2 h3 _
    exact h v' w' h1 h2 (fun e => by simpa using h3.1 e)

end Go.Proofs.YbulkbgzmFmt
