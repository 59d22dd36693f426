/-
  CScript: NODES: made, asked for their size.
-/
import Derived.Test.YbulkbgzmFmtCs1
import Derived.Laws.CopyOwn
namespace Go.Proofs.YbulkbgzmFmt
open Go.RowKit Go.Stop
set_option linter.unusedVariables false

theorem info22b : (Ybaf.prog.info? 22).map (fun i => (i.zero, i.size, i.bytes)) = some (some (.slice none 0 0), 1, 24) := by kernel_rfl
theorem info57 : (Ybaf.prog.info? 57).map (fun i => (i.zero, i.size, i.bytes)) = some (some (.pointer none), 1, 8) := by kernel_rfl

/-- A node's three cells. -/
def NodeAt (w : World) (b : Nat) (k v ch : Value) : Prop := w.heap[b]? = some (.cells #[k, v, ch] 91 (0, 0))
theorem NodeAt.below {w w' : World} {b : Nat} {k v ch : Value} (h : NodeAt w b k v ch) (hb : Below w.heap.size w w') : NodeAt w' b k v ch := (hb.block b (lt_of_block h)).trans h
theorem NodeAt.c0 {w : World} {b : Nat} {k v ch : Value} (h : NodeAt w b k v ch) : w.cell? ⟨b, 0, none⟩ = some k := by unfold NodeAt at h; simp [World.cell?, h]
theorem NodeAt.c1 {w : World} {b : Nat} {k v ch : Value} (h : NodeAt w b k v ch) : w.cell? ⟨b, 1, none⟩ = some v := by unfold NodeAt at h; simp [World.cell?, h]
theorem NodeAt.c2 {w : World} {b : Nat} {k v ch : Value} (h : NodeAt w b k v ch) : w.cell? ⟨b, 2, none⟩ = some ch := by unfold NodeAt at h; simp [World.cell?, h]

/-- A new leaf of n pairs, its row not yet filled. -/
def NewLeaf (w : World) (b g n : Nat) (cur : List Value) : Prop :=
  NodeAt w b (.slice (some ⟨g, 0, none⟩) n n) (.slice (some ⟨g, n, none⟩) n n) (.slice none 0 0) ∧ w.heap[g]? = some (.cells cur.toArray 22 (0, 0)) ∧ cur.length = 2 * n ∧ b ≠ g

set_option maxRecDepth 100000 in
set_option maxHeartbeats 1000000 in
theorem newLeaf_any (n : Nat) (hn : n ≤ 64) (w : World) : Calls Ybaf.prog 30 #[.int .i64 n] w fun e w' => ∃ b g, e = .returned (.pointer (some ⟨b, 0, none⟩)) ∧ NewLeaf w' b g n (List.replicate (2 * n) (.slice none 0 0)) ∧ w.heap.size ≤ b ∧ w.heap.size ≤ g ∧ Below w.heap.size w w' := by
  have hmk := run_make_row' (P := Ybaf.prog) 35 22 (.slice none 0 0) 24 Ybaf.underlying35 info22b rfl .i64 .i64 (2 * n) (by omega) (by omega)
  rw [show ((2 * n : Nat) : Int) = 2 * (n : Int) by omega] at hmk
  have hrow : Hid ((w.alloc (.cells (madeCells #[.slice none 0 0] (2 * n)) 22)).heap[w.heap.size]? = some (.cells (List.replicate (2 * n) (Value.slice none 0 0)).toArray 22 (0, 0))) := by
    have h := (MapKept.heap_alloc w (.cells (madeCells #[.slice none 0 0] (2 * n)) 22)).1
    rw [← toList_madeCells_one (.slice none 0 0) (2 * n), Array.toArray_toList]
    exact h
  have hbel : Hid (Below w.heap.size w (w.alloc (.cells (madeCells #[.slice none 0 0] (2 * n)) 22))) := (Below.refl _ _).alloc (Nat.le_refl _) _
  have hsz : (w.alloc (.cells (madeCells #[.slice none 0 0] (2 * n)) 22)).heap.size = w.heap.size + 1 := by simp
  have hl : (n : Int) ≤ 2 * (n : Int) := by omega
  have hz : ∀ X : World, X.heap.size = w.heap.size + 1 → Below w.heap.size w X → X.heap[w.heap.size]? = some (.cells (List.replicate (2 * n) (Value.slice none 0 0)).toArray 22 (0, 0)) →
      ∀ Y : World, Y = X.alloc (.cells #[.slice (some ⟨w.heap.size, 0, none⟩) n n, .slice (some ⟨w.heap.size, n, none⟩) n n, .slice none 0 0] 91) ∨ Y = (X.alloc (.cells #[.slice (some ⟨w.heap.size, 0, none⟩) n n, .slice (some ⟨w.heap.size, n, none⟩) n n, .slice none 0 0] 91)).drew →
      NewLeaf Y (w.heap.size + 1) w.heap.size n (List.replicate (2 * n) (.slice none 0 0)) ∧ Below w.heap.size w Y := by
    intro X hX hb hr Y hY
    have h1 : ∀ o, (X.alloc o).heap[w.heap.size + 1]? = some o := fun o => by have := (MapKept.heap_alloc X o).1; rw [hX] at this; exact this
    have h2 : ∀ o, (X.alloc o).heap[w.heap.size]? = X.heap[w.heap.size]? := fun o => Below.heap_alloc X o _ (by omega)
    rcases hY with rfl | rfl
    · exact ⟨⟨h1 _, (h2 _).trans hr, by simp, by omega⟩, hb.alloc (by omega) _⟩
    · exact ⟨⟨h1 _, (h2 _).trans hr, by simp, by omega⟩, (hb.alloc (by omega) _).drew⟩
  have HZ : Hid (∀ X : World, X.heap.size = w.heap.size + 1 → Below w.heap.size w X → X.heap[w.heap.size]? = some (.cells (List.replicate (2 * n) (Value.slice none 0 0)).toArray 22 (0, 0)) →
      ∀ Y : World, Y = X.alloc (.cells #[.slice (some ⟨w.heap.size, 0, none⟩) n n, .slice (some ⟨w.heap.size, n, none⟩) n n, .slice none 0 0] 91) ∨ Y = (X.alloc (.cells #[.slice (some ⟨w.heap.size, 0, none⟩) n n, .slice (some ⟨w.heap.size, n, none⟩) n n, .slice none 0 0] 91)).drew →
      NewLeaf Y (w.heap.size + 1) w.heap.size n (List.replicate (2 * n) (.slice none 0 0)) ∧ Below w.heap.size w Y) := hz
  clear hz
  by_cases h0 : n = 0
  · subst h0
    have hmk0 : ∀ w : World, Sem.run Ybaf.prog (Instr.makeSlice 35 (Value.int IntKind.i64 0) (Value.int IntKind.i64 0)) w = Result.ok (Value.slice (some ⟨w.heap.size, 0, none⟩) 0 0) (w.alloc (Obj.cells (madeCells #[Value.slice none 0 0] 0) 22)) :=
      run_make_row' (P := Ybaf.prog) 35 22 (.slice none 0 0) 24 Ybaf.underlying35 info22b rfl .i64 .i64 0 (by omega) (by omega)
    clear hmk
    simp only [Nat.mul_zero] at hsz hbel hrow HZ
    go_enter Ybaf.func30, Ybaf.ntmps30
    go_upto_region 2 with (fail)
    generalize w.alloc (.cells (madeCells #[.slice none 0 0] 0) 22) = X at *
    clear hmk0
    go_region
    go_wp2
    go_ret
    obtain ⟨h1, h2⟩ := HZ.out X hsz hbel.out hrow.out _ (.inr rfl)
    exact ⟨w.heap.size + 1, w.heap.size, by simp, h1, by omega, Nat.le_refl _, h2⟩
  · have h2n : 2 * n - n = n := by omega
    go_enter Ybaf.func30, Ybaf.ntmps30
    go_upto_region 2 with (fail)
    generalize w.alloc (.cells (madeCells #[.slice none 0 0] (2 * n)) 22) = X at *
    clear hmk
    go_region
    go_wp2
    go_ret
    obtain ⟨h1, h2⟩ := HZ.out X hsz hbel.out hrow.out _ (.inr rfl)
    first
      | exact ⟨w.heap.size + 1, w.heap.size, by simp, h1, by omega, Nat.le_refl _, h2⟩
      | (rw [h2n]; exact ⟨w.heap.size + 1, w.heap.size, by simp, h1, by omega, Nat.le_refl _, h2⟩)

/-- A new inner node of n children, its rows not yet filled. -/
def NewInner (w : World) (b g h n : Nat) (ck ch : List Value) : Prop :=
  NodeAt w b (.slice (some ⟨g, 0, none⟩) (n - 1) (n - 1)) (.slice none 0 0) (.slice (some ⟨h, 0, none⟩) n n) ∧ w.heap[g]? = some (.cells ck.toArray 22 (0, 0)) ∧ w.heap[h]? = some (.cells ch.toArray 57 (0, 0)) ∧
    ck.length = n - 1 ∧ ch.length = n ∧ b ≠ g ∧ b ≠ h ∧ g ≠ h

theorem made_row (X : World) (z : Value) (n : Nat) (t : TypeId) : (X.alloc (.cells (madeCells #[z] n) t)).heap[X.heap.size]? = some (.cells (List.replicate n z).toArray t (0, 0)) := by
  have h := (MapKept.heap_alloc X (.cells (madeCells #[z] n) t)).1
  rw [← toList_madeCells_one z n, Array.toArray_toList]
  exact h

theorem alloc3 (w : World) (A B C : Obj) : (((w.alloc A).alloc B).alloc C).drew.heap[w.heap.size]? = some A ∧ (((w.alloc A).alloc B).alloc C).drew.heap[w.heap.size + 1]? = some B ∧ (((w.alloc A).alloc B).alloc C).drew.heap[w.heap.size + 1 + 1]? = some C ∧
    Below w.heap.size w (((w.alloc A).alloc B).alloc C).drew := by
  refine ⟨?_, ?_, ?_, ((((Below.refl _ _).alloc (Nat.le_refl _) _).alloc (by simp) _).alloc (by simp; omega) _).drew⟩
  · show (((w.alloc A).alloc B).alloc C).heap[w.heap.size]? = some A
    rw [Below.heap_alloc _ _ _ (by simp; omega), Below.heap_alloc _ _ _ (by simp)]
    exact (MapKept.heap_alloc w A).1
  · show (((w.alloc A).alloc B).alloc C).heap[w.heap.size + 1]? = some B
    rw [Below.heap_alloc _ _ _ (by simp)]
    have := (MapKept.heap_alloc (w.alloc A) B).1
    simpa using this
  · show (((w.alloc A).alloc B).alloc C).heap[w.heap.size + 1 + 1]? = some C
    have := (MapKept.heap_alloc ((w.alloc A).alloc B) C).1
    simpa using this
theorem madeCells_is (z : Value) (n : Nat) : madeCells #[z] n = (List.replicate n z).toArray := by
  rw [← toList_madeCells_one z n, Array.toArray_toList]

set_option maxRecDepth 100000 in
set_option maxHeartbeats 1000000 in
theorem newInner_any (n : Nat) (hn1 : 1 ≤ n) (hn : n ≤ 64) (w : World) : Calls Ybaf.prog 32 #[.int .i64 n] w fun e w' => ∃ b g h, e = .returned (.pointer (some ⟨b, 0, none⟩)) ∧
    NewInner w' b g h n (List.replicate (n - 1) (.slice none 0 0)) (List.replicate n (.pointer none)) ∧ w.heap.size ≤ b ∧ w.heap.size ≤ g ∧ w.heap.size ≤ h ∧ Below w.heap.size w w' := by
  have hmk := run_make_row' (P := Ybaf.prog) 35 22 (.slice none 0 0) 24 Ybaf.underlying35 info22b rfl .i64 .i64 (n - 1) (by omega) (by omega)
  have hmc := run_make_row' (P := Ybaf.prog) 89 57 (.pointer none) 8 Ybaf.underlying89 info57 rfl .i64 .i64 n (by omega) (by omega)
  rw [show ((n - 1 : Nat) : Int) = (n : Int) - 1 by omega] at hmk
  go_enter Ybaf.func32, Ybaf.ntmps32
  go_upto_region 1 with (fail)
  go_region
  · clear hmk hmc
    go_wp2
    go_ret
    simp only [madeCells_is]
    obtain ⟨h1, h2, h3, h4⟩ := alloc3 w (.cells (List.replicate (n - 1) (.slice none 0 0)).toArray 22) (.cells (List.replicate n (.pointer none)).toArray 57) (.cells #[.slice (some ⟨w.heap.size, 0, none⟩) (n - 1) (n - 1), .slice none 0 0, .slice (some ⟨w.heap.size + 1, 0, none⟩) n n] 91)
    exact ⟨w.heap.size + 1 + 1, w.heap.size, w.heap.size + 1, rfl, ⟨h3, h1, h2, by simp, by simp, by omega, by omega, by omega⟩, by omega, Nat.le_refl _, by omega, h4⟩
  · clear hmk hmc
    go_wp2
    go_ret
    simp only [madeCells_is]
    obtain ⟨h1, h2, h3, h4⟩ := alloc3 w (.cells (List.replicate n (.pointer none)).toArray 57) (.cells (List.replicate (n - 1) (.slice none 0 0)).toArray 22) (.cells #[.slice (some ⟨w.heap.size + 1, 0, none⟩) (n - 1) (n - 1), .slice none 0 0, .slice (some ⟨w.heap.size, 0, none⟩) n n] 91)
    exact ⟨w.heap.size + 1 + 1, w.heap.size + 1, w.heap.size, rfl, ⟨h3, h2, h1, by simp, by simp, by omega, by omega, by omega⟩, by omega, by omega, Nat.le_refl _, h4⟩

/-- The leaf's pairs, as values. -/
def LeafV (w : World) (p : Value) (ks vs : List Value) : Prop :=
  ∃ b a1 c1 a2 c2, p = .pointer (some ⟨b, 0, none⟩) ∧ NodeAt w b (.slice a1 ks.length c1) (.slice a2 ks.length c2) (.slice none 0 0) ∧ RowAt w a1 ks ∧ RowAt w a2 vs ∧ vs.length = ks.length ∧ ks.length ≤ c1 ∧ ks.length ≤ c2 ∧ (∃ g1 o1, a1 = some ⟨g1, o1, none⟩) ∧ ∃ g2 o2, a2 = some ⟨g2, o2, none⟩
theorem LeafV.below {w w' : World} {p : Value} {ks vs : List Value} (h : LeafV w p ks vs) (hb : Below w.heap.size w w') : LeafV w' p ks vs := by
  obtain ⟨b, a1, c1, a2, c2, h1, h2, h3, h4, r⟩ := h
  exact ⟨b, a1, c1, a2, c2, h1, h2.below hb, h3.below hb, h4.below hb, r⟩
/-- The inner node's keys and children, as values. -/
def InnerV (w : World) (p : Value) (ks cs : List Value) : Prop :=
  ∃ b a1 c1 a2 c2, p = .pointer (some ⟨b, 0, none⟩) ∧ NodeAt w b (.slice a1 ks.length c1) (.slice none 0 0) (.slice a2 cs.length c2) ∧ RowAt w a1 ks ∧ RowAt w a2 cs ∧ cs.length = ks.length + 1 ∧ ks.length ≤ c1 ∧ cs.length ≤ c2 ∧ (∃ g1 o1, a1 = some ⟨g1, o1, none⟩) ∧ ∃ g2 o2, a2 = some ⟨g2, o2, none⟩
theorem InnerV.below {w w' : World} {p : Value} {ks cs : List Value} (h : InnerV w p ks cs) (hb : Below w.heap.size w w') : InnerV w' p ks cs := by
  obtain ⟨b, a1, c1, a2, c2, h1, h2, h3, h4, r⟩ := h
  exact ⟨b, a1, c1, a2, c2, h1, h2.below hb, h3.below hb, h4.below hb, r⟩

theorem NewLeaf.leafV {w : World} {b g n : Nat} {ks vs : List Value} (h : NewLeaf w b g n (ks ++ vs)) (hk : ks.length = n) (hv : vs.length = n) : LeafV w (.pointer (some ⟨b, 0, none⟩)) ks vs := by
  obtain ⟨h1, h2, h3, _⟩ := h
  refine ⟨b, _, n, _, n, rfl, by rw [hk]; exact h1, .inr ⟨g, 0, rfl, fun j v hj => ?_⟩, .inr ⟨g, n, rfl, fun j v hj => ?_⟩, by omega, by omega, by omega, ⟨_, _, rfl⟩, ⟨_, _, rfl⟩⟩
  · have hj' : j < ks.length := by
      rcases Nat.lt_or_ge j ks.length with h | h
      · exact h
      · rw [List.getElem?_eq_none h] at hj; cases hj
    simp only [World.cell?, h2, Nat.zero_add]
    rw [List.getElem?_toArray, List.getElem?_append_left hj']
    exact hj
  · simp only [World.cell?, h2]
    rw [List.getElem?_toArray, List.getElem?_append_right (by omega), hk, Nat.add_sub_cancel_left]
    exact hj
theorem NewInner.innerV {w : World} {b g h n : Nat} {ks cs : List Value} (hN : NewInner w b g h n ks cs) (hn : 1 ≤ n) : InnerV w (.pointer (some ⟨b, 0, none⟩)) ks cs := by
  obtain ⟨h1, h2, h3, h4, h5, _⟩ := hN
  refine ⟨b, _, n - 1, _, n, rfl, by rw [h4, h5]; exact h1, .inr ⟨g, 0, rfl, fun j v hj => ?_⟩, .inr ⟨h, 0, rfl, fun j v hj => ?_⟩, by omega, by omega, by omega, ⟨_, _, rfl⟩, ⟨_, _, rfl⟩⟩
  · simp only [World.cell?, h2, Nat.zero_add]
    rw [List.getElem?_toArray]; exact hj
  · simp only [World.cell?, h3, Nat.zero_add]
    rw [List.getElem?_toArray]; exact hj

end Go.Proofs.YbulkbgzmFmt
