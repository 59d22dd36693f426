/-
  BYTES IN MEMORY, AND append: what the walks of this seat share.
-/
import Derived.Test.YbulkbgzmFmtShelf
import Derived.Test.YbulkbgzmFmtPlain
import Derived.WalkKit
import Derived.ProofKit
import Derived.Below
import Derived.Outline
import Derived.WalkSpells
import Derived.Deep.OwnRows
import Derived.Deep.Draws
import Derived.Maps.AppendAt
import Derived.Lib.Slices
import Derived.Shelf.Bytes.SlSmallAll
namespace Go.Proofs.YbulkbgzmFmt
open Go.RowKit

/-- A slice's n bytes are l: none, or an address with their cells. -/
def BytesAt (w : World) (a : Option Addr) (n : Nat) (l : List UInt8) : Prop :=
  l.length = n ∧ (n = 0 ∨ ∃ b o, a = some ⟨b, o, none⟩ ∧ ∀ j (hj : j < l.length), w.cell? ⟨b, o + j, none⟩ = some (.int .u8 (l[j]).toNat))

theorem BytesAt.nil (w : World) (a : Option Addr) : BytesAt w a 0 [] := ⟨rfl, .inl rfl⟩
theorem BytesAt.len {w : World} {a : Option Addr} {n : Nat} {l : List UInt8} (h : BytesAt w a n l) : l.length = n := h.1

/-- A world in which the slice's block is as it was. -/
theorem BytesAt.same {w w' : World} {a : Option Addr} {n : Nat} {l : List UInt8} (h : BytesAt w a n l) (hs : ∀ b o, a = some ⟨b, o, none⟩ → b < w.heap.size → w'.heap[b]? = w.heap[b]?) : BytesAt w' a n l := by
  obtain ⟨h1, h2⟩ := h
  refine ⟨h1, ?_⟩
  rcases h2 with h0 | ⟨b, o, rfl, hc⟩
  · exact .inl h0
  · by_cases h0 : n = 0
    · exact .inl h0
    · have hb : b < w.heap.size := World.block_lt_of_cell? w ⟨b, o + 0, none⟩ (hc 0 (by omega))
      exact .inr ⟨b, o, rfl, fun j hj => (World.cell?_of_block (w := w) (a := ⟨b, o + j, none⟩) (hs b o rfl hb)).trans (hc j hj)⟩
theorem BytesAt.below {w w' : World} {a : Option Addr} {n : Nat} {l : List UInt8} (h : BytesAt w a n l) (hb : Below w.heap.size w w') : BytesAt w' a n l :=
  h.same fun b _ _ hlt => hb.block b hlt
theorem BytesAt.alloc {w : World} {a : Option Addr} {n : Nat} {l : List UInt8} (h : BytesAt w a n l) (o : Obj) : BytesAt (w.alloc o) a n l :=
  h.below ((Below.refl _ _).alloc (Nat.le_refl _) o)

/-- A piece of it: from i on, k bytes. -/
theorem BytesAt.piece {w : World} {b o n : Nat} {l : List UInt8} (h : BytesAt w (some ⟨b, o, none⟩) n l) (i k : Nat) (hik : i + k ≤ n) : BytesAt w (some ⟨b, o + i, none⟩) k ((l.drop i).take k) := by
  obtain ⟨h1, h2⟩ := h
  refine ⟨by simp; omega, ?_⟩
  by_cases hk : k = 0
  · exact .inl hk
  · rcases h2 with h0 | ⟨b', o', e, hc⟩
    · exact .inl (by omega)
    · simp only [Option.some.injEq, Addr.mk.injEq, and_true] at e
      obtain ⟨rfl, rfl⟩ := e
      refine .inr ⟨b, o + i, rfl, fun j hj => ?_⟩
      simp only [List.length_take, List.length_drop] at hj
      rw [Nat.add_assoc, hc (i + j) (by omega)]
      simp

/-- The cells, as an append asks for them. -/
theorem BytesAt.cells {w : World} {a : Option Addr} {n : Nat} {l : List UInt8} (h : BytesAt w a n l) : ∀ ad, a = some ad → ∀ j u, (Lib.byteCells l)[j]? = some u → w.cell? (ad.add j) = some u := by
  intro ad ha j u hj
  obtain ⟨h1, h2⟩ := h
  have hjl : j < l.length := by
    have := (List.getElem?_eq_some_iff.1 hj).1
    simpa [Lib.byteCells] using this
  rcases h2 with h0 | ⟨b, o, hb, hc⟩
  · omega
  · rw [hb] at ha
    obtain rfl := Option.some.inj ha
    rw [Addr.add_lit, hc j hjl, ← hj]
    simp [Lib.byteCells, hjl]

/-- What is owned is there. -/
theorem ownsRow_bytes {w : World} {B n : Nat} {v : Value} {l : List UInt8} (h : w.ownsRow B 5 1 v n (Lib.byteCells l)) : ∃ a c, v = .slice a n c ∧ BytesAt w a n l := by
  have hn : l.length = n := by have := h.1; simpa [Lib.byteCells] using this
  rcases h.2 with ⟨rfl, rfl⟩ | ⟨g, cap, cur, rfl, _⟩
  · exact ⟨none, 0, rfl, hn, .inl rfl⟩
  · refine ⟨_, cap, rfl, hn, .inr ⟨g, 0, rfl, fun j hj => ?_⟩⟩
    rw [Nat.zero_add, h.cellAt j (by omega)]
    simp [Lib.byteCells, hj]

/-- 'string(b)'. -/
theorem BytesAt.convert {w : World} {a : Option Addr} {n : Nat} {l : List UInt8} (h : BytesAt w a n l) (c : Nat) : (convert 22 9 (.slice a n c)).run Ybaf.prog w = .ok (.string ⟨l.toArray⟩) w := by
  obtain ⟨h1, h2⟩ := h
  have e : strOfNums (l.map fun b => (b.toNat : Int)) = ⟨l.toArray⟩ := by
    unfold strOfNums
    congr 1
    rw [List.map_map]
    congr 1
    conv => rhs; rw [← List.map_id l]
    exact List.map_congr_left (fun b _ => by simp)
  rw [← e]
  by_cases h0 : n = 0
  · subst h0
    obtain rfl : l = [] := List.eq_nil_of_length_eq_zero h1
    exact run_convert_bytes_zero w 22 5 Ybaf.underlying22 Ybaf.underlying5 a c 9 Ybaf.underlying9
  · rcases h2 with h2 | ⟨b, o, rfl, hc⟩
    · exact absurd h2 h0
    · refine run_convert_bytes_arg (P := Ybaf.prog) w 22 5 Ybaf.underlying22 Ybaf.underlying5 b o n c _ (by simpa using h1) (fun i hi => ?_) 9 Ybaf.underlying9
      rw [hc i (by omega)]
      simp [List.getD, h1, hi]

/-- bytes.Equal. -/
theorem equal_any {w : World} {a1 a2 : Option Addr} {n1 n2 c1 c2 : Nat} {l1 l2 : List UInt8} (h1 : BytesAt w a1 n1 l1) (h2 : BytesAt w a2 n2 l2) :
    Calls Ybaf.prog 8 #[.slice a1 n1 c1, .slice a2 n2 c2] w fun e w' => e = .returned (.bool (l1 == l2)) ∧ w' = w :=
  (Ybaf.bytes_Equal_strs _ _ _ _ w (h1.convert c1) (h2.convert c2)).mono fun _ _ ⟨he, hw⟩ => ⟨by rw [he]; simp, hw⟩

/-- encoding/binary.Uvarint. -/
theorem uvarint_any {w : World} {a : Option Addr} {n c : Nat} {l : List UInt8} (h : BytesAt w a n l) :
    Calls Ybaf.prog 25 #[.slice a n c] w fun e w' => e = .returned (.tuple #[.int .u64 (Lib.uvarintDec l).1, .int .i64 (Lib.uvarintDec l).2]) ∧ w' = w := by
  obtain ⟨h1, h2⟩ := h
  by_cases h0 : n = 0
  · subst h0
    obtain rfl : l = [] := List.eq_nil_of_length_eq_zero h1
    exact Ybaf.binary_Uvarint_empty a c w
  · rcases h2 with h2 | ⟨b, o, rfl, hc⟩
    · exact absurd h2 h0
    · exact Ybaf.binary_Uvarint b o n c l w h1 hc

/-! ### append: onto nil or a row of the call's own, from whatever source -/

/-- WHERE THE NEW SLICE LIES: in the old row, or in a new block. -/
def Lies (w : World) (v v' : Value) : Prop := v'.ownBlock = v.ownBlock ∨ ∃ g, v'.ownBlock = some g ∧ w.heap.size ≤ g

theorem run_append_step {P : Program} (w : World) (base : Nat) (t ty e : TypeId) (i : TypeInfo) (z : Value) (size bytes : Nat) (ht : P.underlying t = some (.slice e)) (hi : P.info? e = some i) (hz : i.zero = some z)
    (hsize : i.size = size) (hby : i.bytes = bytes) (hzs : z.cells.size = size) (hsz : 0 < size)
    (v : Value) (n : Nat) (xs : List Value) (hown : w.ownsRow base e size v n xs)
    (src : Option Addr) (m c : Nat) (news : List Value) (hnone : src = none → m = 0 ∧ c = 0) (hl : news.length = m * size) (hnews : ∀ ad, src = some ad → ∀ j u, news[j]? = some u → w.cell? (ad.add j) = some u) (h1 : ∀ u ∈ news, u.oneCell' = true)
    (h63 : n + m ≤ maxLen) (hbytes : (n + m) * bytes ≤ 140737488355328) (hbase : base ≤ w.heap.size) :
    ∃ v' w', (Builtin.append_ #[t, t] ty #[v, .slice src m c]).run P w = .ok v' w' ∧ w'.ownsRow base e size v' (n + m) (xs ++ news) ∧ w.grownBy w' v.ownBlock ∧
      (v' = .slice none 0 0 ↔ v = .slice none 0 0 ∧ m = 0) ∧ Lies w v v' := by
  cases src with
  | none =>
    obtain ⟨rfl, rfl⟩ := hnone rfl
    obtain rfl : news = [] := List.eq_nil_of_length_eq_zero (by simpa using hl)
    refine ⟨v, w, run_append_owned_none (P := P) w base t ty e i size ht hi v n xs hown, by simpa using hown, World.grownBy.refl _ _, by simp, .inl rfl⟩
  | some ad =>
    obtain ⟨v', w', hr, h2, h3, h4, h5⟩ := run_append_own_at (P := P) w base t ty e i z size bytes ht hi hz hsize hby hzs hsz v n xs hown ad m c news hl (hnews ad rfl) h1 h63 hbytes hbase
    refine ⟨v', w', hr, h2, h3, h4, ?_⟩
    rcases h5 with h5 | h5
    · exact .inl h5
    · exact .inr ⟨_, h5, Nat.le_refl _⟩

theorem wpList_append_step {P : Program} (w : World) {ops : Array Oper} {rest : List Oper} {o : Oper} {a : Act} {Q : Exit → Act → World → Prop} (hgd : o.guard = none) (s x : Operand) (t : TypeId)
    (ho : o.op = .call { callee := .builtin .append, args := #[s, x], argTypes := #[t, t] })
    (base : Nat) (e : TypeId) (i : TypeInfo) (z : Value) (size bytes : Nat) (ht : P.underlying t = some (.slice e)) (hi : P.info? e = some i) (hz : i.zero = some z)
    (hsize : i.size = size) (hby : i.bytes = bytes) (hzs : z.cells.size = size) (hsz : 0 < size)
    (v : Value) (n : Nat) (xs : List Value) (hs : a.eval s = v) (hown : w.ownsRow base e size v n xs)
    (src : Option Addr) (m c : Nat) (news : List Value) (hx : a.eval x = .slice src m c) (hnone : src = none → m = 0 ∧ c = 0) (hl : news.length = m * size) (hnews : ∀ ad, src = some ad → ∀ j u, news[j]? = some u → w.cell? (ad.add j) = some u) (h1 : ∀ u ∈ news, u.oneCell' = true)
    (h63 : n + m ≤ maxLen) (hbytes : (n + m) * bytes ≤ 140737488355328) (hbase : base ≤ w.heap.size)
    (h : ∀ v' w', w'.ownsRow base e size v' (n + m) (xs ++ news) → w.grownBy w' v.ownBlock → (v' = .slice none 0 0 ↔ v = .slice none 0 0 ∧ m = 0) → Lies w v v' → wpList P ops Q rest (a.put o.dst v') w') :
    wpList P ops Q (o :: rest) a w := by
  refine wpList_plain hgd fun K hK => ?_
  obtain ⟨v', w', hr, h2, h3, h4, h5⟩ := run_append_step (P := P) w base t o.type e i z size bytes ht hi hz hsize hby hzs hsz v n xs hown src m c news hnone hl hnews h1 h63 hbytes hbase
  unfold Oper.wp execOp
  simp only [ho, resolve, invoke, builtin, Sem.run_bind, Sem.run_pure, Result.andThen_ok, List.map_toArray, List.map_cons, List.map_nil, hs, hx, hr]
  exact hK _ _ (h v' w' h2 h3 h4 h5)

/-- Behind such a step: whatever else is owned stays, if its block is another. -/
theorem ownsRow_kept {w w' : World} {base e size n : Nat} {v u : Value} {xs : List Value} (h : w.ownsRow base e size v n xs) (hg : w.grownBy w' u.ownBlock) (hne : v.ownBlock = none ∨ v.ownBlock ≠ u.ownBlock) : w'.ownsRow base e size v n xs := h.kept hg hne
theorem Lies.ne {w : World} {v v' u : Value} {base e size n : Nat} {xs : List Value} (h : Lies w v v') (hu : w.ownsRow base e size u n xs) (hne : u.ownBlock = none ∨ u.ownBlock ≠ v.ownBlock) : u.ownBlock = none ∨ u.ownBlock ≠ v'.ownBlock := by
  rcases hne with h0 | hne
  · exact .inl h0
  · rcases h with h | ⟨g, hg, hlt⟩
    · exact .inr (by rw [h]; exact hne)
    · refine .inr fun e => ?_
      have := hu.lt g (e.trans hg)
      omega

end Go.Proofs.YbulkbgzmFmt
