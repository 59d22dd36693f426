/-
  CScript: THE SESSION: what stays while another block is written; the set of written keys; 'checkWrite'.
-/
import Derived.Test.YbulkbgzmFmtCsO
import Derived.Maps.RangeWalk
import Derived.Maps.OwnSet
namespace Go.Proofs.YbulkbgzmFmt
open Go.RowKit Go.Stop
set_option linter.unusedVariables false
attribute [local simp] kvs_app vvs_app kns_app cont_app odd_app kvs_cons vvs_cons kns_cons cont_cons odd_cons kvs_nil vvs_nil kns_nil cont_nil odd_nil kvs_len vvs_len kns_len
/-- Block x holds nothing of a tree. -/
def Foreign (w : World) (x : Nat) : Prop := (∀ c t z, w.heap[x]? = some (.cells c t z) → t ≠ 91 ∧ t ≠ 22 ∧ t ≠ 57) ∧ ∀ o n, w.cell? ⟨x, o, none⟩ ≠ some (.int .u8 n)
/-- Nothing but block x has turned, or is new. -/
def But (x : Nat) (w w' : World) : Prop := w.heap.size ≤ w'.heap.size ∧ ∀ k, k < w.heap.size → k ≠ x → w'.heap[k]? = w.heap[k]?
theorem But.block {x : Nat} {w w' : World} (h : But x w w') {k : Nat} {o : Obj} (hk : w.heap[k]? = some o) (hx : k ≠ x) : w'.heap[k]? = some o := (h.2 k (lt_of_block hk) hx).trans hk
theorem BytesAt.other {x : Nat} {w w' : World} {a : Option Addr} {n : Nat} {l : List UInt8} (h : BytesAt w a n l) (hf : Foreign w x) (hb : But x w w') : BytesAt w' a n l := by
  obtain ⟨h1, h2 | ⟨b, o, rfl, hc⟩⟩ := h
  · exact ⟨h1, .inl h2⟩
  · refine ⟨h1, .inr ⟨b, o, rfl, fun j hj => ?_⟩⟩
    have hcj := hc j hj
    have hbx : b ≠ x := fun e => by subst e; exact hf.2 _ _ hcj
    have hlt : b < w.heap.size := World.block_lt_of_cell? _ _ hcj
    rw [← hcj]
    simp only [World.cell?]
    rw [hb.2 b hlt hbx]
theorem KeyAt.other {x : Nat} {w w' : World} {v : Value} {k : Nat} (h : KeyAt w v k) (hf : Foreign w x) (hb : But x w w') : KeyAt w' v k := by
  obtain ⟨a, c, h1, h2, h3⟩ := h
  exact ⟨a, c, h1, h2.other hf hb, h3⟩
theorem ValAt.other {x : Nat} {w w' : World} {v : Value} {l : List UInt8} (h : ValAt w v l) (hf : Foreign w x) (hb : But x w w') : ValAt w' v l := by
  obtain ⟨a, n, c, h1, h2⟩ := h
  exact ⟨a, n, c, h1, h2.other hf hb⟩
theorem Oks.other {x : Nat} {w w' : World} {E : List Ent} (h : Oks w E) (hf : Foreign w x) (hb : But x w w') : Oks w' E := fun e he => ⟨(h e he).1.other hf hb, (h e he).2.other hf hb⟩
theorem NodeAt.other {x : Nat} {w w' : World} {b : Nat} {k v c : Value} (h : NodeAt w b k v c) (hf : Foreign w x) (hb : But x w w') : NodeAt w' b k v c :=
  hb.block h (fun e => by subst e; exact (hf.1 _ _ _ h).1 rfl)
theorem LeafE.other {x : Nat} {w w' : World} {p : Value} {E : List Ent} (h : LeafE w p E) (hf : Foreign w x) (hb : But x w w') : LeafE w' p E := by
  obtain ⟨b, g, h1, ⟨h2, h3, h4⟩, h5⟩ := h
  exact ⟨b, g, h1, ⟨h2.other hf hb, hb.block h3 (fun e => by subst e; exact (hf.1 _ _ _ h3).2.1 rfl), h4⟩, h5.other hf hb⟩
theorem InnerE.other {x : Nat} {w w' : World} {p : Value} {S : List (Value × Nat)} {C : List (Value × List Ent)} (h : InnerE w p S C) (hf : Foreign w x) (hb : But x w w') : InnerE w' p S C := by
  obtain ⟨b, g, h, h1, ⟨h2, h3, h4, h5⟩, h6, h7, h8⟩ := h
  exact ⟨b, g, h, h1, ⟨h2.other hf hb, hb.block h3 (fun e => by subst e; exact (hf.1 _ _ _ h3).2.1 rfl), hb.block h4 (fun e => by subst e; exact (hf.1 _ _ _ h4).2.2 rfl), h5⟩, h6, fun s hs => (h7 s hs).other hf hb, fun c hc => (h8 c hc).other hf hb⟩
theorem TreeE.other {x : Nat} {w w' : World} {p : Value} {L : List Ent} (h : TreeE w p L) (hf : Foreign w x) (hb : But x w w') : TreeE w' p L := by
  rcases h with h | ⟨h1, h2⟩ | ⟨S, C, h1, h2⟩
  · exact .inl h
  · exact .inr (.inl ⟨h1.other hf hb, h2⟩)
  · exact .inr (.inr ⟨S, C, h1.other hf hb, h2⟩)
theorem TreeE.ptr {w : World} {p : Value} {L : List Ent} (h : TreeE w p L) : ∃ a, p = .pointer a := by
  rcases h with ⟨rfl, -⟩ | ⟨h1, -⟩ | ⟨S, C, ⟨b, g, h, rfl, -⟩, -⟩
  · exact ⟨_, rfl⟩
  · obtain ⟨b, rfl⟩ := h1.ptr
    exact ⟨_, rfl⟩
  · exact ⟨_, rfl⟩
theorem But.cell {x j : Nat} {w : World} (v : Value) : But x w (w.setCell ⟨x, j, none⟩ v) := ⟨by simp [World.setCell], fun k _ hk => Below.heap_setCell w ⟨x, j, none⟩ v k hk⟩
theorem But.of_below {x : Nat} {w w' : World} (h : Below w.heap.size w w') : But x w w' := ⟨h.size, fun k hk _ => h.block k hk⟩

/-- The session's block. -/
def Sess (w : World) (sb : Nat) (st : Addr) (root : Value) (mb : Nat) : Prop := w.heap[sb]? = some (.cells #[.pointer (some st), .pointer none, .pointer none, root, .map (some mb)] 59 (0, 0))
theorem Sess.cells {w : World} {sb mb : Nat} {st : Addr} {root : Value} (h : Sess w sb st root mb) : w.cell? ⟨sb, 0, none⟩ = some (.pointer (some st)) ∧ w.cell? ⟨sb, 2, none⟩ = some (.pointer none) ∧ w.cell? ⟨sb, 3, none⟩ = some root ∧ w.cell? ⟨sb, 4, none⟩ = some (.map (some mb)) ∧ w.frozen? ⟨sb, 3, none⟩ = false := by
  unfold Sess at h
  simp [World.cell?, World.frozen?, h]
theorem Sess.below {w w' : World} {sb mb : Nat} {st : Addr} {root : Value} (h : Sess w sb st root mb) (hb : Below w.heap.size w w') : Sess w' sb st root mb := (hb.block sb (lt_of_block h)).trans h
theorem Sess.set {w : World} {sb mb : Nat} {st : Addr} {root root' : Value} (h : Sess w sb st root mb) : Sess (w.setCell ⟨sb, 3, none⟩ root') sb st root' mb := by
  unfold Sess at *
  rw [heap_setCell_same w sb 3 _ 59 root' h]
  rfl
theorem Sess.foreign {w : World} {sb mb : Nat} {st : Addr} {root : Value} (h : Sess w sb st root mb) (hr : ∃ a, root = .pointer a) : Foreign w sb := by
  unfold Sess at h
  obtain ⟨a, rfl⟩ := hr
  refine ⟨fun c t z e => ?_, fun o n e => ?_⟩
  · rw [h] at e
    simp only [Option.some.injEq, Obj.cells.injEq] at e
    obtain ⟨-, rfl, -⟩ := e
    decide
  · simp only [World.cell?, h] at e
    rcases o with _ | _ | _ | _ | _ | o
    · simp at e
    · simp at e
    · simp at e
    · simp at e
    · simp at e
    · simp at e

/-- A key as the map's. -/
def lit (k : Nat) : Lit := .string (keyB k)
/-- The set of written keys. -/
def MapE (w : World) (mb n : Nat) (W : Nat → Bool) : Prop :=
  ∃ D : DataW Unit, w.ownsMap Ybaf.prog 9 unitElem mb n D ∧ ∀ kl, Maps.has D kl = true ↔ ∃ k, k < 40 ∧ W k = true ∧ kl = lit k
theorem MapE.block {w w' : World} {mb n : Nat} {W : Nat → Bool} (h : MapE w mb n W) (hb : w'.heap[mb]? = w.heap[mb]?) : MapE w' mb n W := by
  obtain ⟨D, ⟨es, clock, h1, h2⟩, h3⟩ := h
  exact ⟨D, ⟨es, clock, hb.trans h1, h2⟩, h3⟩
theorem MapE.lt {w : World} {mb n : Nat} {W : Nat → Bool} (h : MapE w mb n W) : mb < w.heap.size := by
  obtain ⟨D, h1, -⟩ := h
  exact h1.lt
theorem MapE.below {w w' : World} {mb n : Nat} {W : Nat → Bool} (h : MapE w mb n W) (hb : Below w.heap.size w w') : MapE w' mb n W := h.block (hb.block mb h.lt)
theorem MapE.ne {w : World} {sb mb mb' n : Nat} {W : Nat → Bool} {c : Array Value} {t : TypeId} {z : Nat × Nat} (h : MapE w mb n W) (hs : w.heap[sb]? = some (.cells c t z)) : sb ≠ mb := fun e => by
  subst e
  obtain ⟨D, ⟨es, clock, h1, h2⟩, h3⟩ := h
  rw [hs] at h1
  cases h1
theorem MapE.foreign {w : World} {mb n : Nat} {W : Nat → Bool} (h : MapE w mb n W) : Foreign w mb := by
  obtain ⟨D, ⟨es, clock, h1, h2⟩, h3⟩ := h
  refine ⟨fun c t z e => ?_, fun o n e => ?_⟩
  · rw [h1] at e; cases e
  · simp only [World.cell?, h1] at e
    cases e
theorem lit_inj {a b : Nat} (ha : a < 40) (hb : b < 40) (h : lit a = lit b) : a = b := by
  have e := keyB_inj ha hb
  have : keyB a = keyB b := by unfold lit at h; injection h
  rw [this] at e
  simpa using e.symm
theorem keyed9 : Maps.Keyed Ybaf.prog 9 := Maps.string_keyed Ybaf.underlying9
theorem keyOf9 (k : Nat) : _root_.Go.keyOf Ybaf.prog 9 (.string ⟨(keyB k).toArray⟩) = some (lit k) := by
  have hs : (⟨(keyB k).toArray⟩ : ByteArray).size ≤ maxLen := by show 2 ≤ maxLen; decide
  simp [_root_.Go.keyOf, Ybaf.underlying9, mapKey, hs, lit]
theorem MapE.put {w : World} {mb n k : Nat} {W : Nat → Bool} (h : MapE w mb n W) (hn : n < maxLen) (hk : k < 40) :
    ∃ w', (Instr.mapUpdate 56 (.map (some mb)) (.string ⟨(keyB k).toArray⟩) (.agg #[])).run Ybaf.prog w = .ok () w' ∧ MapE w' mb (n + 1) (fun j => W j || decide (j = k)) ∧ Keeps mb w w' := by
  obtain ⟨D, h1, h2⟩ := h
  obtain ⟨w', r1, r2, r3⟩ := h1.store keyed9 Ybaf.underlying56 hn (keyOf9 k) unitElem_mk
  refine ⟨w', r1, ⟨_, r2, fun kl => ?_⟩, ?_⟩
  · by_cases hkl : kl = lit k
    · subst hkl
      rw [Maps.has_put_same h1.isMap (show WideAt.IsKeyLit (lit k) from trivial)]
      simp only [true_iff]
      exact ⟨k, hk, by simp, rfl⟩
    · rw [Maps.has_put_other hkl, h2]
      constructor
      · rintro ⟨j, hj, hW, rfl⟩
        exact ⟨j, hj, by simp [hW], rfl⟩
      · rintro ⟨j, hj, hW, rfl⟩
        refine ⟨j, hj, ?_, rfl⟩
        have hjk : j ≠ k := fun e => hkl (by rw [e])
        simpa [hjk] using hW
  · obtain ⟨es, clock, es', clock', e1, rfl⟩ := r3
    refine ⟨rfl, rfl, rfl, ?_, fun j hj => ?_⟩
    · simp [ChangeMaps.setBlock]
    · simp only [ChangeMaps.setBlock]
      rw [Array.getElem?_setIfInBounds_ne (fun e => hj e.symm)]

set_option maxRecDepth 100000 in
theorem checkWrite_ok {w : World} {sb mb c : Nat} {st : Addr} {root v1 : Value} {a : Option Addr} (h : Sess w sb st root mb) (hg : w.cell? ⟨1, 0, none⟩ = some v1) : Calls Ybaf.prog 18 #[.pointer (some ⟨sb, 0, none⟩), .slice a 2 c] w fun e w' => e = .returned .nilIface ∧ w' = w := by
  obtain ⟨h0, h2, -⟩ := h.cells
  clear h
  go_enter Ybaf.func18, Ybaf.ntmps18
  go_wp2
  go_ret
  exact ⟨rfl, rfl⟩

end Go.Proofs.YbulkbgzmFmt
