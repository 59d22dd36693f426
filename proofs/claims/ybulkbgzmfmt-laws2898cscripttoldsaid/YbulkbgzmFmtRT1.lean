/-
  'LawS2898ARoundTrip': what lies in memory while the writes are encoded.
-/
import Derived.Test.YbulkbgzmFmtDecW
namespace Go.Proofs.YbulkbgzmFmt
open Go.RowKit
set_option linter.unusedVariables false

/-! ### plain: the law's own cuts -/
def keyOf (k : List UInt8) : List UInt8 := if k.length = 0 then [107] else k.take 4096
def valOf (v : List UInt8) : List UInt8 := v.take 65536
/-- One of the law's inputs: Del, Key, Value. -/
structure Inp where
  del : Bool
  key : List UInt8
  val : List UInt8
def toWr (d : Inp) : Wr := ⟨keyOf d.key, if d.del then none else some (valOf d.val)⟩
theorem keyOf_len (k : List UInt8) : 0 < (keyOf k).length ∧ (keyOf k).length ≤ 4096 := by
  unfold keyOf; split
  · simp
  · simp; omega
theorem valOf_len (v : List UInt8) : (valOf v).length ≤ 65536 := by unfold valOf; simp; omega
theorem toWr_fits (d : Inp) : Fits (toWr d) := by
  refine ⟨(keyOf_len _).1, (keyOf_len _).2, fun v hv => ?_⟩
  unfold toWr at hv
  simp only at hv
  split at hv
  · cases hv
  · obtain rfl := Option.some.inj hv; exact valOf_len _

/-! ### memory -/
def Apart (u v : Value) : Prop := u.ownBlock = none ∨ u.ownBlock ≠ v.ownBlock

/-- The two rows of copies (at B and B + 1), filled up to i1 and i2; what is encoded so far, in a row apart from all copies. -/
def St (w wr : World) (B n i1 i2 : Nat) (ks vs : Nat → List UInt8) (v : Value) (enc : List UInt8) : Prop :=
  ∃ kv vv : Nat → Value, wr.rowIs B 22 n kv ∧ wr.rowIs (B + 1) 22 n vv ∧ (∀ j, j < i1 → Owns wr B (kv j) (ks j) ∧ Apart (kv j) v) ∧ (∀ j, j < i2 → Owns wr B (vv j) (vs j) ∧ Apart (vv j) v) ∧ Owns wr B v enc ∧ Below B w wr

theorem rowIs_below {w w' : World} {b t n : Nat} {f : Nat → Value} (h : w.rowIs b t n f) (hb : Below w.heap.size w w') : w'.rowIs b t n f := h.of_block (hb.block b h.lt)
theorem St.below {w wr w' : World} {B n i1 i2 : Nat} {ks vs : Nat → List UInt8} {v : Value} {enc : List UInt8} (h : St w wr B n i1 i2 ks vs v enc) (hb : Below wr.heap.size wr w') (hB : B ≤ wr.heap.size) : St w w' B n i1 i2 ks vs v enc := by
  obtain ⟨kv, vv, h1, h2, h3, h4, h5, h6⟩ := h
  exact ⟨kv, vv, rowIs_below h1 hb, rowIs_below h2 hb, fun j hj => ⟨(h3 j hj).1.below hb, (h3 j hj).2⟩, fun j hj => ⟨(h4 j hj).1.below hb, (h4 j hj).2⟩, h5.below hb, h6.trans (hb.mono hB)⟩

/-- A row of bytes and a row of slices lie apart. -/
theorem Owns.ne_row {w : World} {B b n : Nat} {v : Value} {l : List UInt8} {f : Nat → Value} (h : Owns w B v l) (hr : w.rowIs b 22 n f) : v.ownBlock ≠ some b := by
  rcases h.2 with ⟨rfl, _⟩ | ⟨g, cap, cur, rfl, _, hh, _⟩
  · simp [Value.ownBlock]
  · intro e
    simp only [Value.ownBlock, Option.some.injEq] at e
    subst e
    obtain ⟨c, hc, _⟩ := hr
    rw [hh] at hc; simp at hc
theorem Owns.setRowCell {w : World} {B b o n : Nat} {v x : Value} {l : List UInt8} {f : Nat → Value} (h : Owns w B v l) (hr : w.rowIs b 22 n f) : Owns (w.setCell ⟨b, o, none⟩ x) B v l := by
  obtain ⟨h1, h2⟩ := id h
  refine ⟨h1, ?_⟩
  rcases h2 with h2 | ⟨g, cap, cur, hv, hg, hh, r⟩
  · exact .inl h2
  · refine .inr ⟨g, cap, cur, hv, hg, ?_, r⟩
    rw [Below.heap_setCell _ _ _ _ (fun e => ?_)]
    · exact hh
    · have e' : g = b := e
      exact h.ne_row hr (by rw [hv, e']; rfl)

/-- keys[i] = the copy x. -/
theorem St.key {w W : World} {B n i i2 : Nat} {ks vs : Nat → List UInt8} {v x : Value} {enc : List UInt8} (h : St w W B n i i2 ks vs v enc) (hx : Owns W B x (ks i)) (ha : Apart x v) :
    St w (W.setCell ⟨B, i, none⟩ x) B n (i + 1) i2 ks vs v enc := by
  obtain ⟨kv, vv, h1, h2, h3, h4, h5, h6⟩ := h
  refine ⟨fun j => if j = i then x else kv j, vv, h1.set i x, h2.setOther (by simp) _, fun j hj => ?_, fun j hj => ⟨(h4 j hj).1.setRowCell h1, (h4 j hj).2⟩, h5.setRowCell h1, h6.setCell (p := ⟨B, i, none⟩) (Nat.le_refl _) _⟩
  by_cases e : j = i
  · subst e; simp only [if_true]; exact ⟨hx.setRowCell h1, ha⟩
  · simp only [if_neg e]; exact ⟨(h3 j (by omega)).1.setRowCell h1, (h3 j (by omega)).2⟩
theorem St.val {w W : World} {B n i1 i : Nat} {ks vs : Nat → List UInt8} {v x : Value} {enc : List UInt8} (h : St w W B n i1 i ks vs v enc) (hx : Owns W B x (vs i)) (ha : Apart x v) :
    St w (W.setCell ⟨B + 1, i, none⟩ x) B n i1 (i + 1) ks vs v enc := by
  obtain ⟨kv, vv, h1, h2, h3, h4, h5, h6⟩ := h
  refine ⟨kv, fun j => if j = i then x else vv j, h1.setOther (by simp) _, h2.set i x, fun j hj => ⟨(h3 j hj).1.setRowCell h2, (h3 j hj).2⟩, fun j hj => ?_, h5.setRowCell h2, h6.setCell (p := ⟨B + 1, i, none⟩) (Nat.le_succ _) _⟩
  by_cases e : j = i
  · subst e; simp only [if_true]; exact ⟨hx.setRowCell h2, ha⟩
  · simp only [if_neg e]; exact ⟨(h4 j (by omega)).1.setRowCell h2, (h4 j (by omega)).2⟩
/-- enc grows. -/
theorem St.push {w W w' : World} {B n i1 i2 : Nat} {ks vs : Nat → List UInt8} {v v' : Value} {enc enc' : List UInt8} (h : St w W B n i1 i2 ks vs v enc) (hg : W.grownBy w' v.ownBlock) (hL : Lies W v v') (hB : B ≤ W.heap.size)
    (ho : Owns w' B v' enc') : St w w' B n i1 i2 ks vs v' enc' := by
  obtain ⟨kv, vv, h1, h2, h3, h4, h5, h6⟩ := h
  refine ⟨kv, vv, h1.of_block (hg.block B h1.lt (fun e => h5.ne_row h1 e.symm)), h2.of_block (hg.block (B + 1) h2.lt (fun e => h5.ne_row h2 e.symm)),
    fun j hj => ⟨(h3 j hj).1.other hg (h3 j hj).2, hL.ne (h3 j hj).1 (h3 j hj).2⟩, fun j hj => ⟨(h4 j hj).1.other hg (h4 j hj).2, hL.ne (h4 j hj).1 (h4 j hj).2⟩, ho, ?_⟩
  exact h6.grown hg hB (fun k hk => (World.ownsRow.lt h5 k hk).1)

/-- What lies in a block that was not there when v's row was, lies apart from v. -/
theorem apart_new {w : World} {B B' e size n m : Nat} {x v : Value} {xs : List Value} {l : List UInt8} {W : World} (hx : w.ownsRow W.heap.size e size x n xs) (hv : Owns W B v l) : Apart x v := by
  by_cases h0 : x.ownBlock = none
  · exact .inl h0
  · obtain ⟨k, hk⟩ := Option.ne_none_iff_exists'.1 h0
    refine .inr fun e => ?_
    have h1 := hx.lt k hk
    have h2 := World.ownsRow.lt hv k (e.symm.trans hk)
    omega

/-- Blocks that a round leaves alone: those below B, and those from H1 to H2. -/
def Keep (B H1 H2 : Nat) (wc X : World) : Prop := H2 ≤ X.heap.size ∧ ∀ g, g < B ∨ (H1 ≤ g ∧ g < H2) → X.heap[g]? = wc.heap[g]?
/-- v's own row is none of them. -/
def Off (B H1 H2 : Nat) (v : Value) : Prop := ∀ g, v.ownBlock = some g → B ≤ g ∧ (g < H1 ∨ H2 ≤ g)
theorem Keep.bytes {B H1 H2 : Nat} {wc X : World} (h : Keep B H1 H2 wc X) {a : Option Addr} {m : Nat} {l : List UInt8} (hb : BytesAt wc a m l) (ha : ∃ g o, a = some ⟨g, o, none⟩ ∧ (g < B ∨ (H1 ≤ g ∧ g < H2))) : BytesAt X a m l := by
  obtain ⟨g, o, rfl, hg⟩ := ha
  refine hb.same fun b o' e _ => ?_
  simp only [Option.some.injEq, Addr.mk.injEq, and_true] at e
  rw [← e.1]
  exact h.2 g hg
theorem Keep.start {B H1 : Nat} (wc : World) : Keep B H1 wc.heap.size wc wc := ⟨Nat.le_refl _, fun _ _ => rfl⟩
theorem Keep.below {B H1 H2 : Nat} {wc X Y : World} (h : Keep B H1 H2 wc X) (hb : Below X.heap.size X Y) (hB : B ≤ X.heap.size) : Keep B H1 H2 wc Y :=
  ⟨Nat.le_trans h.1 hb.size, fun g hg => (hb.block g (by have := h.1; omega)).trans (h.2 g hg)⟩
theorem Keep.setCell {B H1 H2 b o : Nat} {wc X : World} {x : Value} (h : Keep B H1 H2 wc X) (hb : B ≤ b) (hb2 : b < H1 ∨ H2 ≤ b) : Keep B H1 H2 wc (X.setCell ⟨b, o, none⟩ x) :=
  ⟨by have := h.1; simpa [World.setCell] using this, fun g hg => (Below.heap_setCell X ⟨b, o, none⟩ x g (by show g ≠ b; omega)).trans (h.2 g hg)⟩
theorem Keep.grown {B H1 H2 : Nat} {wc X Y : World} {v : Value} (h : Keep B H1 H2 wc X) (hg : X.grownBy Y v.ownBlock) (ho : Off B H1 H2 v) (hB : B ≤ X.heap.size) : Keep B H1 H2 wc Y := by
  refine ⟨Nat.le_trans h.1 hg.size, fun g hg' => (hg.block g (by have := h.1; omega) (fun e => ?_)).trans (h.2 g hg')⟩
  have := ho g e.symm
  omega
theorem Off.lies {B H1 H2 : Nat} {X : World} {v v' : Value} (h : Off B H1 H2 v) (hL : Lies X v v') (hX : H2 ≤ X.heap.size) (hB : B ≤ X.heap.size) : Off B H1 H2 v' := by
  intro g hg
  rcases hL with e | ⟨k, e, hk⟩
  · exact h g (e.symm.trans hg)
  · rw [hg] at e
    obtain rfl := Option.some.inj e
    exact ⟨by omega, .inr (by omega)⟩
/-- enc's row, when the round began. -/
theorem Off.start {w : World} {B H2 : Nat} {v : Value} {l : List UInt8} (h : Owns w B v l) : Off B w.heap.size H2 v := fun g hg => by
  have := World.ownsRow.lt h g hg
  exact ⟨this.1, .inl this.2⟩

/-! ### the two appends of the law -/
/-- 'append([]byte{}, src...)'. -/
theorem wpList_append_fresh (W : World) {ops : Array Oper} {rest : List Oper} {o : Oper} {a : Act} {Q : Exit → Act → World → Prop} (hgd : o.guard = none) (s x : Operand)
    (ho : o.op = .call { callee := .builtin .append, args := #[s, x], argTypes := #[22, 22] }) (H : Nat) (hH : W.heap.size = H) (hs : a.eval s = .slice (some ⟨H, 0, none⟩) 0 0)
    (src : Option Addr) (m c : Nat) (l : List UInt8) (hx : a.eval x = .slice src m c) (hb : BytesAt W src m l) (hnone : src = none → m = 0 ∧ c = 0) (hm : m ≤ 1073741824)
    (h : ∀ g cx w', w'.ownsRow W.heap.size 5 1 (.slice (some ⟨g, 0, none⟩) m cx) m (Lib.byteCells l) → Below W.heap.size W w' → wpList Ybaf.prog ops Q rest (a.put o.dst (.slice (some ⟨g, 0, none⟩) m cx)) w') :
    wpList Ybaf.prog ops Q (o :: rest) a (W.alloc (.cells #[] 5)) := by
  subst hH
  obtain ⟨i0, hi, hz0, hz1, hz2⟩ := info_parts info5
  have hown : (W.alloc (.cells #[] 5)).ownsRow W.heap.size 5 1 (.slice (some ⟨W.heap.size, 0, none⟩) 0 0) 0 [] :=
    World.ownsRow_made (e := 5) (size := 1) (base := W.heap.size) W #[] 0 (Nat.le_refl _) (Nat.zero_le _) rfl
  refine wpList_append_step _ hgd s x 22 ho W.heap.size 5 i0 _ 1 1 Ybaf.underlying22 hi hz0 hz1 hz2 rfl (by decide) _ 0 [] hs hown src m c (Lib.byteCells l) hx hnone ?_ ?_ (bytes_one l) ?_ ?_ (by simp) ?_
  · rw [Lib.byteCells_length, hb.len]; omega
  · exact (hb.alloc _).cells
  · unfold maxLen; omega
  · omega
  · intro v' w' h1 h2 h3 _
    rw [Nat.zero_add] at h1
    have hne : v' ≠ .slice none 0 0 := fun e => by simpa using h3.1 e
    have h1' : w'.ownsRow W.heap.size 5 1 v' m (Lib.byteCells l) := by simpa using h1
    obtain ⟨g, cx, rfl⟩ : ∃ g cx, v' = .slice (some ⟨g, 0, none⟩) m cx := by
      rcases h1'.2 with ⟨e, _⟩ | ⟨g, cx, _, e, _⟩
      · exact absurd e hne
      · exact ⟨g, cx, e⟩
    refine h g cx w' h1' ?_
    have hb1 : Below W.heap.size W (W.alloc (.cells #[] 5)) := (Below.refl _ _).alloc (Nat.le_refl _) _
    exact hb1.grown h2 hb1.size (fun k hk => by simp [Value.ownBlock] at hk; omega)

/-- 'append(enc, src...)', enc the call's own. -/
theorem wpList_append_enc (W : World) {ops : Array Oper} {rest : List Oper} {o : Oper} {a : Act} {Q : Exit → Act → World → Prop} (hgd : o.guard = none) (s x : Operand)
    (ho : o.op = .call { callee := .builtin .append, args := #[s, x], argTypes := #[22, 22] }) (B : Nat) (u : Value) (enc : List UInt8) (hs : a.eval s = u) (hown : Owns W B u enc) (hB : B ≤ W.heap.size)
    (src : Option Addr) (m c : Nat) (l : List UInt8) (hx : a.eval x = .slice src m c) (hb : BytesAt W src m l) (hnone : src = none → m = 0 ∧ c = 0) (hm : m ≤ 1073741824) (he : enc.length ≤ 1073741824)
    (h : ∀ v' w', Owns w' B v' (enc ++ l) → W.grownBy w' u.ownBlock → Lies W u v' → wpList Ybaf.prog ops Q rest (a.put o.dst v') w') :
    wpList Ybaf.prog ops Q (o :: rest) a W := by
  obtain ⟨i0, hi, hz0, hz1, hz2⟩ := info_parts info5
  refine wpList_append_step _ hgd s x 22 ho B 5 i0 _ 1 1 Ybaf.underlying22 hi hz0 hz1 hz2 rfl (by decide) u enc.length (Lib.byteCells enc) hs hown src m c (Lib.byteCells l) hx hnone ?_ hb.cells (bytes_one l) ?_ ?_ hB ?_
  · rw [Lib.byteCells_length, hb.len]; omega
  · unfold maxLen; omega
  · omega
  · intro v' w' h1 h2 _ h4
    refine h v' w' ?_ h2 h4
    unfold Owns
    rw [List.length_append, hb.len, Lib.byteCells_append]
    exact h1

/-! ### while enc grows -/
def Mid (w : World) (B H1 H2 n i : Nat) (ks vs : Nat → List UInt8) (wc X : World) (v : Value) (enc : List UInt8) : Prop :=
  St w X B n (i + 1) (i + 1) ks vs v enc ∧ Keep B H1 H2 wc X ∧ Off B H1 H2 v
theorem Mid.own {w : World} {B H1 H2 n i : Nat} {ks vs : Nat → List UInt8} {wc X : World} {v : Value} {enc : List UInt8} (h : Mid w B H1 H2 n i ks vs wc X v enc) : Owns X B v enc := by
  obtain ⟨⟨_, _, _, _, _, _, h, _⟩, _⟩ := h; exact h
theorem Mid.bel {w : World} {B H1 H2 n i : Nat} {ks vs : Nat → List UInt8} {wc X : World} {v : Value} {enc : List UInt8} (h : Mid w B H1 H2 n i ks vs wc X v enc) : Below B w X := by
  obtain ⟨⟨_, _, _, _, _, _, _, h⟩, _⟩ := h; exact h
theorem Mid.alloc {w : World} {B H1 H2 n i : Nat} {ks vs : Nat → List UInt8} {wc X : World} {v : Value} {enc : List UInt8} (h : Mid w B H1 H2 n i ks vs wc X v enc) (o : Obj) (hB : B ≤ X.heap.size) : Mid w B H1 H2 n i ks vs wc (X.alloc o) v enc :=
  ⟨h.1.below ((Below.refl _ _).alloc (Nat.le_refl _) o) hB, h.2.1.below ((Below.refl _ _).alloc (Nat.le_refl _) o) hB, h.2.2⟩
theorem Mid.push {w : World} {B H1 H2 n i : Nat} {ks vs : Nat → List UInt8} {wc X Y : World} {v v' : Value} {enc enc' : List UInt8} (h : Mid w B H1 H2 n i ks vs wc X v enc) (hg : X.grownBy Y v.ownBlock) (hL : Lies X v v') (ho : Owns Y B v' enc')
    (hB : B ≤ X.heap.size) : Mid w B H1 H2 n i ks vs wc Y v' enc' :=
  ⟨h.1.push hg hL hB ho, h.2.1.grown hg h.2.2 hB, h.2.2.lies hL h.2.1.1 hB⟩
theorem bytes_one_new (w : World) (k : UInt8) : BytesAt (w.alloc (.cells #[.int .u8 k.toNat] 5)) (some ⟨w.heap.size, 0, none⟩) 1 [k] := by
  refine ⟨rfl, .inr ⟨w.heap.size, 0, rfl, fun j hj => ?_⟩⟩
  obtain rfl : j = 0 := by simpa using hj
  rw [Nat.zero_add, World.cell?_alloc_new]
  rfl
theorem Owns.more {w : World} {B : Nat} {v : Value} {l m : List UInt8} (h : w.ownsRow B 5 1 v (l.length + m.length) (Lib.byteCells l ++ Lib.byteCells m)) : Owns w B v (l ++ m) := by
  unfold Owns
  rw [List.length_append, Lib.byteCells_append]
  exact h

end Go.Proofs.YbulkbgzmFmt
