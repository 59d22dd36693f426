/-
  CScript: what the law's first loop keeps.
-/
import Derived.Test.YbulkbgzmFmtCsV
namespace Go.Proofs.YbulkbgzmFmt
open Go.RowKit Go.Stop
set_option linter.unusedVariables false
attribute [local simp] kvs_app vvs_app kns_app cont_app odd_app kvs_cons vvs_cons kns_cons cont_cons odd_cons kvs_nil vvs_nil kns_nil cont_nil odd_nil kvs_len vvs_len kns_len
/-- An array of 40 cells. -/
def ArrAt (w : World) (b t : Nat) (f : Nat → Value) : Prop := ∃ cs : List Value, cs.length = 40 ∧ w.heap[b]? = some (.cells cs.toArray t (0, 0)) ∧ ∀ j, j < 40 → cs[j]? = some (f j)
theorem ArrAt.block {w : World} {b t : Nat} {f : Nat → Value} (h : ArrAt w b t f) : ∃ cs, w.heap[b]? = some (.cells cs t (0, 0)) := by
  obtain ⟨cs, -, h, -⟩ := h
  exact ⟨_, h⟩
theorem ArrAt.other {w w' : World} {b t : Nat} {f : Nat → Value} (h : ArrAt w b t f) (hb : w'.heap[b]? = w.heap[b]?) : ArrAt w' b t f := by
  obtain ⟨cs, h1, h2, h3⟩ := h
  exact ⟨cs, h1, hb.trans h2, h3⟩
theorem ArrAt.lt {w : World} {b t : Nat} {f : Nat → Value} (h : ArrAt w b t f) : b < w.heap.size := by
  obtain ⟨cs, h⟩ := h.block
  exact lt_of_block h
theorem ArrAt.cell {w : World} {b t : Nat} {f : Nat → Value} (h : ArrAt w b t f) {j : Nat} (hj : j < 40) : w.cell? ⟨b, j, none⟩ = some (f j) ∧ w.frozen? ⟨b, j, none⟩ = false := by
  obtain ⟨cs, h1, h2, h3⟩ := h
  refine ⟨?_, by simp [World.frozen?, h2]⟩
  simp only [World.cell?, h2]
  rw [List.getElem?_toArray]
  exact h3 j hj
theorem ArrAt.set {w : World} {b t : Nat} {f : Nat → Value} (h : ArrAt w b t f) {k : Nat} (x : Value) : ArrAt (w.setCell ⟨b, k, none⟩ x) b t (fun j => if j = k then x else f j) := by
  obtain ⟨cs, h1, h2, h3⟩ := h
  refine ⟨cs.set k x, by simpa using h1, ?_, fun j hj => ?_⟩
  · rw [heap_setCell_same w b k cs.toArray t x h2, List.setIfInBounds_toArray]
  · rw [List.getElem?_set]
    by_cases e : k = j
    · subst e
      rw [if_pos rfl, if_pos (by omega)]
      simp
    · have e2 : ¬ j = k := fun e2 => e e2.symm
      rw [if_neg e, h3 j hj]
      simp [e2]
theorem ArrAt.foreign {w : World} {b t : Nat} {f : Nat → Value} (h : ArrAt w b t f) (ht : t = 60 ∨ t = 61) (hf : ∀ j n, f j ≠ .int .u8 n) : Foreign w b := by
  obtain ⟨cs, h1, h2, h3⟩ := h
  refine ⟨fun c t' z e => ?_, fun o n e => ?_⟩
  · rw [h2] at e
    simp only [Option.some.injEq, Obj.cells.injEq] at e
    obtain ⟨-, rfl, -⟩ := e
    rcases ht with rfl | rfl <;> decide
  · simp only [World.cell?, h2] at e
    rw [List.getElem?_toArray] at e
    have e' : cs[o]? = some (.int .u8 n) := e
    by_cases ho : o < 40
    · rw [h3 o ho] at e'
      exact hf o n (by simpa using e')
    · rw [List.getElem?_eq_none (by omega)] at e'
      cases e'
theorem ne_types {w : World} {a b : Nat} {c1 c2 : Array Value} {t1 t2 : TypeId} {z1 z2 : Nat × Nat} (h1 : w.heap[a]? = some (.cells c1 t1 z1)) (h2 : w.heap[b]? = some (.cells c2 t2 z2)) (ht : t1 ≠ t2) : a ≠ b := fun e => by
  subst e
  rw [h1] at h2
  simp only [Option.some.injEq, Obj.cells.injEq] at h2
  exact ht h2.2.1

/-- All that the law has made. -/
def All (w wr : World) (sb mb wb pb vb : Nat) (st : Addr) (root : Option Addr) (L : List Ent) (n : Nat) (Mf Wf Pf : Nat → Bool) (Vf : Nat → ByteArray) : Prop :=
  Sess wr sb st (.pointer root) mb ∧ TreeE wr (.pointer root) L ∧ MapE wr mb n Mf ∧ ArrAt wr wb 60 (fun k => .bool (Wf k)) ∧ ArrAt wr pb 60 (fun k => .bool (Pf k)) ∧ ArrAt wr vb 61 (fun k => .string (Vf k)) ∧ Below w.heap.size w wr ∧
    w.heap.size ≤ sb ∧ w.heap.size ≤ mb ∧ w.heap.size ≤ wb ∧ w.heap.size ≤ pb ∧ w.heap.size ≤ vb ∧ wb ≠ pb

theorem below_high {w wr X : World} {x : Nat} (h : Below w.heap.size w wr) (hk : Keeps x wr X) (hx : w.heap.size ≤ x) : Below w.heap.size w X := hk.below h hx

theorem All.below {w wr X : World} {sb mb wb pb vb n : Nat} {st : Addr} {root : Option Addr} {L : List Ent} {Mf Wf Pf : Nat → Bool} {Vf : Nat → ByteArray} (h : All w wr sb mb wb pb vb st root L n Mf Wf Pf Vf) (hb : Below wr.heap.size wr X) : All w X sb mb wb pb vb st root L n Mf Wf Pf Vf := by
  obtain ⟨h1, h2, h3, h4, h5, h6, h7, r⟩ := h
  exact ⟨h1.below hb, h2.below hb, h3.below hb, h4.other (hb.block _ h4.lt), h5.other (hb.block _ h5.lt), h6.other (hb.block _ h6.lt), h7.trans (hb.mono h7.size), r⟩
theorem All.pr {w wr : World} {sb mb wb pb vb n : Nat} {st : Addr} {root : Option Addr} {L : List Ent} {Mf Wf Pf : Nat → Bool} {Vf : Nat → ByteArray} (h : All w wr sb mb wb pb vb st root L n Mf Wf Pf Vf) (k : Nat) (x : Bool) : All w (wr.setCell ⟨pb, k, none⟩ (.bool x)) sb mb wb pb vb st root L n Mf Wf (fun j => if j = k then x else Pf j) Vf := by
  obtain ⟨h1, h2, h3, h4, h5, h6, h7, r1, r2, r3, r4, r5, r6⟩ := h
  have hf : Foreign wr pb := h5.foreign (.inl rfl) (fun j n e => by cases e)
  obtain ⟨c5, b5⟩ := h5.block
  obtain ⟨c6, b6⟩ := h6.block
  have hk : Keeps pb wr (wr.setCell ⟨pb, k, none⟩ (.bool x)) := Keeps.cell _
  have e5 : ArrAt (wr.setCell ⟨pb, k, none⟩ (.bool x)) pb 60 (fun j => .bool (if j = k then x else Pf j)) := by
    have := h5.set (k := k) (.bool x)
    have e : (fun j => if j = k then Value.bool x else Value.bool (Pf j)) = fun j => Value.bool (if j = k then x else Pf j) := by funext j; split <;> rfl
    rw [e] at this
    exact this
  exact ⟨(hk.2.2.2.2 _ (ne_types h1 b5 (by decide))).trans h1, h2.other hf (But.cell _), h3.block (hk.2.2.2.2 _ (fun e => h3.ne (mb' := 0) b5 e.symm)), h4.other (hk.2.2.2.2 _ r6), e5, h6.other (hk.2.2.2.2 _ (ne_types b6 b5 (by decide))), below_high h7 hk r4, r1, r2, r3, r4, r5, r6⟩
theorem All.wr {w wr : World} {sb mb wb pb vb n : Nat} {st : Addr} {root : Option Addr} {L : List Ent} {Mf Wf Pf : Nat → Bool} {Vf : Nat → ByteArray} (h : All w wr sb mb wb pb vb st root L n Mf Wf Pf Vf) (k : Nat) (x : Bool) : All w (wr.setCell ⟨wb, k, none⟩ (.bool x)) sb mb wb pb vb st root L n Mf (fun j => if j = k then x else Wf j) Pf Vf := by
  obtain ⟨h1, h2, h3, h4, h5, h6, h7, r1, r2, r3, r4, r5, r6⟩ := h
  have hf : Foreign wr wb := h4.foreign (.inl rfl) (fun j n e => by cases e)
  obtain ⟨c4, b4⟩ := h4.block
  obtain ⟨c6, b6⟩ := h6.block
  have hk : Keeps wb wr (wr.setCell ⟨wb, k, none⟩ (.bool x)) := Keeps.cell _
  have e4 : ArrAt (wr.setCell ⟨wb, k, none⟩ (.bool x)) wb 60 (fun j => .bool (if j = k then x else Wf j)) := by
    have := h4.set (k := k) (.bool x)
    have e : (fun j => if j = k then Value.bool x else Value.bool (Wf j)) = fun j => Value.bool (if j = k then x else Wf j) := by funext j; split <;> rfl
    rw [e] at this
    exact this
  exact ⟨(hk.2.2.2.2 _ (ne_types h1 b4 (by decide))).trans h1, h2.other hf (But.cell _), h3.block (hk.2.2.2.2 _ (fun e => h3.ne (mb' := 0) b4 e.symm)), e4, h5.other (hk.2.2.2.2 _ (fun e => r6 e.symm)), h6.other (hk.2.2.2.2 _ (ne_types b6 b4 (by decide))), below_high h7 hk r3, r1, r2, r3, r4, r5, r6⟩
theorem All.val {w wr : World} {sb mb wb pb vb n : Nat} {st : Addr} {root : Option Addr} {L : List Ent} {Mf Wf Pf : Nat → Bool} {Vf : Nat → ByteArray} (h : All w wr sb mb wb pb vb st root L n Mf Wf Pf Vf) (k : Nat) (x : ByteArray) : All w (wr.setCell ⟨vb, k, none⟩ (.string x)) sb mb wb pb vb st root L n Mf Wf Pf (fun j => if j = k then x else Vf j) := by
  obtain ⟨h1, h2, h3, h4, h5, h6, h7, r1, r2, r3, r4, r5, r6⟩ := h
  have hf : Foreign wr vb := h6.foreign (.inr rfl) (fun j n e => by cases e)
  obtain ⟨c4, b4⟩ := h4.block
  obtain ⟨c5, b5⟩ := h5.block
  obtain ⟨c6, b6⟩ := h6.block
  have hk : Keeps vb wr (wr.setCell ⟨vb, k, none⟩ (.string x)) := Keeps.cell _
  have e6 : ArrAt (wr.setCell ⟨vb, k, none⟩ (.string x)) vb 61 (fun j => .string (if j = k then x else Vf j)) := by
    have := h6.set (k := k) (.string x)
    have e : (fun j => if j = k then Value.string x else Value.string (Vf j)) = fun j => Value.string (if j = k then x else Vf j) := by funext j; split <;> rfl
    rw [e] at this
    exact this
  exact ⟨(hk.2.2.2.2 _ (ne_types h1 b6 (by decide))).trans h1, h2.other hf (But.cell _), h3.block (hk.2.2.2.2 _ (fun e => h3.ne (mb' := 0) b6 e.symm)), h4.other (hk.2.2.2.2 _ (ne_types b4 b6 (by decide))), h5.other (hk.2.2.2.2 _ (ne_types b5 b6 (by decide))), e6, below_high h7 hk r5, r1, r2, r3, r4, r5, r6⟩
theorem All.sess {w wr w' : World} {sb mb wb pb vb n : Nat} {st : Addr} {root : Option Addr} {L : List Ent} {Mf Wf Pf Mf' : Nat → Bool} {Vf : Nat → ByteArray} {P : List Ent → Prop} (h : All w wr sb mb wb pb vb st root L n Mf Wf Pf Vf) (hp : SessPost wr sb mb (n + 1) st Mf' P w') : ∃ root' L', P L' ∧ All w w' sb mb wb pb vb st root' L' (n + 1) Mf' Wf Pf Vf := by
  obtain ⟨h1, h2, h3, h4, h5, h6, h7, r1, r2, r3, r4, r5, r6⟩ := h
  obtain ⟨p', L', s1, s2, s3, s4, s5⟩ := hp
  obtain ⟨c4, b4⟩ := h4.block
  obtain ⟨c5, b5⟩ := h5.block
  obtain ⟨c6, b6⟩ := h6.block
  refine ⟨p', L', s3, s1, s2, s4, h4.other (s5.2.2.2.2 _ h4.lt (ne_types b4 h1 (by decide)) (h3.ne (mb' := 0) b4)), h5.other (s5.2.2.2.2 _ h5.lt (ne_types b5 h1 (by decide)) (h3.ne (mb' := 0) b5)), h6.other (s5.2.2.2.2 _ h6.lt (ne_types b6 h1 (by decide)) (h3.ne (mb' := 0) b6)), ?_, r1, r2, r3, r4, r5, r6⟩
  exact ⟨s5.1.trans h7.os, s5.2.1.trans h7.tape, s5.2.2.1.trans h7.output, Nat.le_trans h7.size s5.2.2.2.1, fun j hj => (s5.2.2.2.2 j (Nat.lt_of_lt_of_le hj h7.size) (by omega) (by omega)).trans (h7.block j hj)⟩
theorem All.more {w wr : World} {sb mb wb pb vb n n' : Nat} {st : Addr} {root : Option Addr} {L : List Ent} {Mf Wf Pf : Nat → Bool} {Vf : Nat → ByteArray} (h : All w wr sb mb wb pb vb st root L n Mf Wf Pf Vf) (hn : n ≤ n') : All w wr sb mb wb pb vb st root L n' Mf Wf Pf Vf := by
  obtain ⟨h1, h2, ⟨D, d1, d2⟩, r⟩ := h
  exact ⟨h1, h2, ⟨D, d1.mono hn, d2⟩, r⟩

/-- The tree holds what the law's arrays say. -/
def Agree (L : List Ent) (Pf : Nat → Bool) (Vf : Nat → ByteArray) : Prop := ∀ k b, (k, b) ∈ cont L ↔ k < 40 ∧ Pf k = true ∧ Vf k = ⟨b.toArray⟩
theorem Agree.put {L L' : List Ent} {Pf : Nat → Bool} {Vf : Nat → ByteArray} {k : Nat} {b : List UInt8} (h : Agree L Pf Vf) (hk : k < 40) (hU : Upd L L' k b) : Agree L' (fun j => if j = k then true else Pf j) (fun j => if j = k then ⟨b.toArray⟩ else Vf j) := by
  intro j c
  rw [hU.2]
  by_cases e : j = k
  · subst e
    simp only [if_pos]
    constructor
    · rintro (h | ⟨-, hn⟩)
      · injection h with h1 h2
        subst h2
        exact ⟨hk, trivial, rfl⟩
      · exact absurd rfl hn
    · rintro ⟨-, -, h⟩
      left
      injection h with h
      have : b = c := by simpa using h
      rw [this]
  · simp only [if_neg e]
    rw [← h j c]
    constructor
    · rintro (h | ⟨h, -⟩)
      · injection h with h1 h2
        exact absurd h1 e
      · exact h
    · intro h
      exact .inr ⟨h, e⟩
theorem Agree.del {L L' : List Ent} {Pf : Nat → Bool} {Vf : Nat → ByteArray} {k : Nat} {s : ByteArray} (h : Agree L Pf Vf) (hD : Del L L' k) : Agree L' (fun j => if j = k then false else Pf j) (fun j => if j = k then s else Vf j) := by
  intro j c
  rw [hD.2]
  by_cases e : j = k
  · subst e
    simp
  · simp only [if_neg e]
    rw [← h j c]
    exact ⟨fun h => h.1, fun h => ⟨h, e⟩⟩

/-- The first loop's state. -/
def LInv (w wr : World) (sb mb wb pb vb : Nat) (st : Addr) (n : Nat) : Prop := ∃ root L Wf Pf Vf, All w wr sb mb wb pb vb st root L n Wf Wf Pf Vf ∧ Agree L Pf Vf

/-- The script, as it lies. -/
def InS (w : World) (b off n : Nat) (P : Nat → Bool) (K : Nat → UInt8) (V : Nat → ByteArray) : Prop := ∀ i, i < n → w.cell? ⟨b, off + i * 3, none⟩ = some (.bool (P i)) ∧ w.cell? ⟨b, off + i * 3 + 1, none⟩ = some (.int .u8 (K i).toNat) ∧ w.cell? ⟨b, off + i * 3 + 2, none⟩ = some (.string (V i))

set_option maxRecDepth 100000 in
theorem law_long (a : Option Addr) (n c : Nat) (w : World) (hn : 1024 < n) : Calls Ybaf.prog 5 #[.slice a n c] w fun e w' => e = .returned (.bool true) ∧ w' = w := by
  have h : (1024 : Int) < (n : Int) := by omega
  go_enter Ybaf.func5, Ybaf.ntmps5
  go_wp2
  go_ret
  exact ⟨rfl, rfl⟩

end Go.Proofs.YbulkbgzmFmt
