/-
  CScript: 'Session.ops': what a round keeps.
-/
import Derived.Test.YbulkbgzmFmtCsS
import Derived.Sort.MapsRangeIn
namespace Go.Proofs.YbulkbgzmFmt
open Go.RowKit Go.Stop
set_option linter.unusedVariables false
attribute [local simp] kvs_app vvs_app kns_app cont_app odd_app kvs_cons vvs_cons kns_cons cont_cons odd_cons kvs_nil vvs_nil kns_nil cont_nil odd_nil kvs_len vvs_len kns_len
/-- A key's slice in a block of bytes of its own. -/
def KeyBlk (w : World) (v : Value) (k : Nat) : Prop := ∃ kb c cs z, v = .slice (some ⟨kb, 0, none⟩) 2 c ∧ w.heap[kb]? = some (.cells cs 5 z) ∧ (∀ j (hj : j < (keyB k).length), cs[j]? = some (.int .u8 ((keyB k)[j]).toNat)) ∧ k < 40 ∧ 2 ≤ c
theorem KeyBlk.keyAt {w : World} {v : Value} {k : Nat} (h : KeyBlk w v k) : KeyAt w v k := by
  obtain ⟨kb, c, cs, z, rfl, h1, h2, h3, h4⟩ := h
  refine ⟨_, c, rfl, ⟨rfl, .inr ⟨kb, 0, rfl, fun j hj => ?_⟩⟩, h3, h4⟩
  simp only [World.cell?, h1, Nat.zero_add]
  exact h2 j hj
theorem KeyBlk.one {w : World} {v : Value} {k : Nat} (h : KeyBlk w v k) : v.oneCell' = true := by
  obtain ⟨kb, c, cs, z, rfl, -⟩ := h
  rfl
theorem KeyBlk.grown {w w' : World} {v : Value} {k : Nat} {row : Option Nat} (h : KeyBlk w v k) (hg : w.grownBy w' row) (hr : ∀ i cs z, row = some i → w.heap[i]? ≠ some (.cells cs 5 z)) : KeyBlk w' v k := by
  obtain ⟨kb, c, cs, z, rfl, h1, h2⟩ := h
  refine ⟨kb, c, cs, z, rfl, ?_, h2⟩
  rw [hg.block kb (lt_of_block h1) (fun e => hr kb cs z e.symm h1)]
  exact h1
theorem KeyBlk.below {w w' : World} {v : Value} {k : Nat} (h : KeyBlk w v k) (hb : Below w.heap.size w w') : KeyBlk w' v k := by
  obtain ⟨kb, c, cs, z, rfl, h1, h2⟩ := h
  exact ⟨kb, c, cs, z, rfl, (hb.block kb (lt_of_block h1)).trans h1, h2⟩
theorem KeyBlk.but {w w' : World} {v : Value} {k blk : Nat} (h : KeyBlk w v k) (hb : But blk w w') (hr : ∀ cs z, w.heap[blk]? ≠ some (.cells cs 5 z)) : KeyBlk w' v k := by
  obtain ⟨kb, c, cs, z, rfl, h1, h2⟩ := h
  exact ⟨kb, c, cs, z, rfl, hb.block h1 (fun e => by subst e; exact hr cs z h1), h2⟩

/-- An op is what the tree says. -/
def Tells (w : World) (L : List Ent) (g : Gh) : Prop := (∃ b, (gk g, b) ∈ cont L ∧ ValAt w g.2.1 b ∧ g.2.2.1 = .bool false) ∨ ((∀ x ∈ L, key x ≠ gk g) ∧ g.2.1 = .slice none 0 0 ∧ g.2.2.1 = .bool true)
theorem Tells.one {w : World} {L : List Ent} {g : Gh} (h : Tells w L g) : g.2.1.oneCell' = true ∧ g.2.2.1.oneCell' = true := by
  rcases h with ⟨b, -, ⟨a, n, c, e, -⟩, e2⟩ | ⟨-, e, e2⟩
  · rw [e, e2]; exact ⟨rfl, rfl⟩
  · rw [e, e2]; exact ⟨rfl, rfl⟩

/-- The loop over the map is under way. -/
def OpsInv (w wr : World) (mb r n : Nat) (D : DataW Unit) (L : List Ent) (W : Nat → Bool) (v : Value) (G : List Gh) (left : Lit → Bool) (cnt : Nat) : Prop :=
  wr.ranges Ybaf.prog 9 unitElem mb r n D left cnt ∧ Below w.heap.size w wr ∧ w.heap.size ≤ r ∧ wr.ownsRow w.heap.size 31 3 v G.length (G.flatMap enc3) ∧ v ≠ .slice none 0 0 ∧ (∀ g ∈ G, KeyBlk wr g.1 (gk g) ∧ Tells w L g) ∧ (G.map gk).Nodup ∧
    (∀ k, k < 40 → W k = true → left (lit k) = true ∨ k ∈ G.map gk) ∧ ∀ g ∈ G, left (lit (gk g)) = false ∧ W (gk g) = true

theorem row_block {w : World} {B n : Nat} {v : Value} {xs : List Value} (h : w.ownsRow B 31 3 v n xs) : ∀ i, v.ownBlock = some i → B ≤ i ∧ ∃ cur, w.heap[i]? = some (.cells cur 31 (0, 0)) := fun i e => by
  rcases h.2 with ⟨rfl, -⟩ | ⟨g, cap, cur, rfl, h1, h2, -⟩
  · cases e
  · simp only [Value.ownBlock, Option.some.injEq] at e
    subst e
    exact ⟨h1, cur, h2⟩
theorem rng_blocks {w : World} {mb r n cnt : Nat} {D : DataW Unit} {left : Lit → Bool} (h : w.ranges Ybaf.prog 9 unitElem mb r n D left cnt) : (∃ es c, w.heap[mb]? = some (.map es c)) ∧ ∃ a b c d, w.heap[r]? = some (.mapIter a b c d) := by
  obtain ⟨es, clock, since, seen, c0, h1, -, -, -, h2, -⟩ := h
  exact ⟨⟨_, _, h1⟩, _, _, _, _, h2⟩
theorem rng_kept {w w' : World} {mb r n cnt : Nat} {D : DataW Unit} {left : Lit → Bool} (h : w.ranges Ybaf.prog 9 unitElem mb r n D left cnt) (h1 : w'.heap[mb]? = w.heap[mb]?) (h2 : w'.heap[r]? = w.heap[r]?) : w'.ranges Ybaf.prog 9 unitElem mb r n D left cnt := by
  obtain ⟨es, clock, since, seen, c0, e1, a1, a2, a3, e2, a4⟩ := h
  exact ⟨es, clock, since, seen, c0, h1.trans e1, a1, a2, a3, h2.trans e2, a4⟩

/-- What has been laid behind the step: a new block with the op's cells, its key in a block of its own. -/
theorem OpsInv.push {w wr w1 W2 w5 : World} {mb r n cnt cnt1 k N : Nat} {D : DataW Unit} {L : List Ent} {W : Nat → Bool} {v v' kv vv dv : Value} {G : List Gh} {left : Lit → Bool}
    (h : OpsInv w wr mb r n D L W v G left cnt) (hk : k < 40) (hW : W k = true) (hl : left (lit k) = true) (hrg : w1.ranges Ybaf.prog 9 unitElem mb r n D (fun z => left z && !z.sameKey (lit k)) cnt1) (hg1 : wr.grownBy w1 (some r))
    (hb2 : Below w1.heap.size w1 W2) (hkb : KeyBlk W2 kv k) (ht : Tells w L (kv, vv, dv, k))
    (hown : w5.ownsRow w.heap.size 31 3 v' (G.length + 1) (G.flatMap enc3 ++ [kv, vv, dv])) (hg5 : (W2.alloc (.cells #[kv, vv, dv] 31)).grownBy w5 v.ownBlock) (hv : v' ≠ .slice none 0 0) (hownv : W2.ownsRow w.heap.size 31 3 v G.length (G.flatMap enc3)) :
    OpsInv w w5 mb r n D L W v' (G ++ [(kv, vv, dv, k)]) (fun z => left z && !z.sameKey (lit k)) cnt1 := by
  obtain ⟨h1, h2, h3, h4, h5, h6, h7, h8, h9⟩ := h
  have hB1 : Below w.heap.size w w1 := ⟨hg1.os.trans h2.os, hg1.tape.trans h2.tape, hg1.output.trans h2.output, Nat.le_trans h2.size hg1.size, fun j hj => (hg1.block j (Nat.lt_of_lt_of_le hj h2.size) (fun e => by simp only [Option.some.injEq] at e; omega)).trans (h2.block j hj)⟩
  have hB2 : Below w.heap.size w W2 := hB1.trans (hb2.mono hB1.size)
  have hB3 : Below W2.heap.size W2 (W2.alloc (.cells #[kv, vv, dv] 31)) := (Below.refl _ _).alloc (Nat.le_refl _) _
  have hB4 : Below w.heap.size w (W2.alloc (.cells #[kv, vv, dv] 31)) := hB2.trans (hB3.mono hB2.size)
  have hrow := row_block (hownv.alloc (Obj.cells #[kv, vv, dv] 31))
  have hB5 : Below w.heap.size w w5 := ⟨hg5.os.trans hB4.os, hg5.tape.trans hB4.tape, hg5.output.trans hB4.output, Nat.le_trans hB4.size hg5.size, fun j hj => (hg5.block j (Nat.lt_of_lt_of_le hj hB4.size) (fun e => by have := (hrow j e.symm).1; omega)).trans (hB4.block j hj)⟩
  have hkeep : ∀ (j : Nat) (o : Obj), W2.heap[j]? = some o → (∀ cur, o ≠ .cells cur 31 (0, 0)) → w5.heap[j]? = some o := fun j o e hne => by
    have e3 := (hB3.block j (lt_of_block e)).trans e
    rw [hg5.block j (lt_of_block e3) (fun e4 => by
      obtain ⟨-, cur, e5⟩ := hrow j e4.symm
      rw [e3] at e5
      exact hne cur (by simpa using e5))]
    exact e3
  have hkeepK : ∀ x q, KeyBlk W2 x q → KeyBlk w5 x q := fun x q hx => by
    obtain ⟨kb, c, cs, z, rfl, e1, e2⟩ := hx
    exact ⟨kb, c, cs, z, rfl, hkeep kb _ e1 (fun cur e => by simp at e), e2⟩
  obtain ⟨⟨es, cl, m1⟩, ia, ib, ic, id', m2⟩ := rng_blocks hrg
  have m1' : W2.heap[mb]? = some (.map es cl) := (hb2.block mb (lt_of_block m1)).trans m1
  have m2' : W2.heap[r]? = some (.mapIter ia ib ic id') := (hb2.block r (lt_of_block m2)).trans m2
  refine ⟨rng_kept hrg ((hkeep mb _ m1' (fun cur e => by cases e)).trans m1.symm) ((hkeep r _ m2' (fun cur e => by cases e)).trans m2.symm), hB5, h3, ?_, hv, fun g hg => ?_, ?_, fun j hj hWj => ?_, fun g hg => ?_⟩
  · have e1 : (G ++ [(kv, vv, dv, k)]).flatMap enc3 = G.flatMap enc3 ++ [kv, vv, dv] := by simp [enc3]
    have e2 : (G ++ [(kv, vv, dv, k)]).length = G.length + 1 := by simp
    rw [e1, e2]
    exact hown
  · rcases List.mem_append.1 hg with hg | hg
    · refine ⟨hkeepK _ _ (KeyBlk.below ((h6 g hg).1.grown hg1 (fun i cs z e => ?_)) hb2), (h6 g hg).2⟩
      simp only [Option.some.injEq] at e
      subst e
      obtain ⟨-, a, b, c, d, hr⟩ := rng_blocks h1
      rw [hr]
      intro e
      cases e
    · obtain rfl := List.mem_singleton.1 hg
      exact ⟨hkeepK _ _ hkb, ht⟩
  · rw [List.map_append, List.nodup_append]
    refine ⟨h7, by simp, fun a ha b hb e => ?_⟩
    obtain rfl : b = k := by simpa [gk] using hb
    subst e
    obtain ⟨g, hg, e⟩ := List.mem_map.1 ha
    have := (h9 g hg).1
    rw [e, hl] at this
    cases this
  · rcases h8 j hj hWj with h | h
    · by_cases e : j = k
      · subst e
        right
        simp [gk]
      · left
        show (left (lit j) && !(lit j).sameKey (lit k)) = true
        rw [h]
        have : (lit j).sameKey (lit k) = false := by
          cases hh : (lit j).sameKey (lit k) with
          | false => rfl
          | true => exact absurd (lit_inj hj hk (WideAt.sameKey_eq hh)) e
        rw [this]
        rfl
    · right
      rw [List.map_append]
      exact List.mem_append_left _ h
  · rcases List.mem_append.1 hg with hg | hg
    · refine ⟨?_, (h9 g hg).2⟩
      show (left (lit (gk g)) && !(lit (gk g)).sameKey (lit k)) = false
      rw [(h9 g hg).1]
      rfl
    · obtain rfl := List.mem_singleton.1 hg
      refine ⟨?_, hW⟩
      show (left (lit k) && !(lit k).sameKey (lit k)) = false
      rw [WideAt.sameKey_self (show WideAt.IsKeyLit (lit k) from trivial)]
      simp

end Go.Proofs.YbulkbgzmFmt
