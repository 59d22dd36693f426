/-
  CScript: 'Session.ops'.
-/
import Derived.Test.YbulkbgzmFmtCsU
namespace Go.Proofs.YbulkbgzmFmt
open Go.RowKit Go.Stop
set_option linter.unusedVariables false
attribute [local simp] kvs_app vvs_app kns_app cont_app odd_app kvs_cons vvs_cons kns_cons cont_cons odd_cons kvs_nil vvs_nil kns_nil cont_nil odd_nil kvs_len vvs_len kns_len
/-- What 'ops' hands back. -/
def OpsPost (w : World) (L : List Ent) (W : Nat → Bool) (blk : Nat) (G : List Gh) (w' : World) : Prop :=
  RowG w' blk G ∧ G.Pairwise (fun x y => gk x < gk y) ∧ (∀ k, k < 40 → (W k = true ↔ k ∈ G.map gk)) ∧ (∀ g ∈ G, KeyAt w' g.1 (gk g) ∧ Tells w' L g) ∧ Below w.heap.size w w'

theorem key_str {x : ByteArray} {k : Nat} (h : _root_.Go.keyOf Ybaf.prog 9 (.string x) = some (lit k)) : x = ⟨(keyB k).toArray⟩ := by
  simp [_root_.Go.keyOf, Ybaf.underlying9, mapKey, lit] at h
  obtain ⟨-, h⟩ := h
  cases x with
  | mk d =>
    simp only at h
    rw [← h]

theorem bytes_key (X : World) {k : Nat} (hk : k < 40) : ∃ c cs z, (convert 9 22 (.string ⟨(keyB k).toArray⟩)).run Ybaf.prog X = .ok (.slice (some ⟨X.heap.size, 0, none⟩) 2 c) (X.drew.alloc (.cells cs 5 z)) ∧ KeyBlk (X.drew.alloc (.cells cs 5 z)) (.slice (some ⟨X.heap.size, 0, none⟩) 2 c) k := by
  have h := run_bytes_of_string (P := Ybaf.prog) X 9 22 5 ⟨(keyB k).toArray⟩ Ybaf.underlying9 Ybaf.underlying22 Ybaf.underlying5
  refine ⟨_, _, _, h, _, _, _, _, rfl, (MapKept.heap_alloc X.drew _).1, fun j hj => ?_, hk, grownCap_ge X 2 0 5⟩
  unfold bytesRow
  have hj2 : j < 2 := hj
  rw [Array.getElem?_append_left (by simpa [keyB] using hj2)]
  simp [keyB_len, hj2]

/-- What 'get' told. -/
def GotIt (w : World) (L : List Ent) (k : Nat) (va : Option Addr) (vn vc : Nat) (fd : Bool) : Prop := (fd = true ∧ ∃ b, (k, b) ∈ cont L ∧ ValAt w (.slice va vn vc) b) ∨ (fd = false ∧ va = none ∧ vn = 0 ∧ vc = 0 ∧ ∀ x ∈ L, key x ≠ k)
theorem got_of {w X w' : World} {p : Value} {L : List Ent} {k : Nat} {e : Ending} (hT : TreeE w p L) (h : GetPost X L k e w') : ∃ va vn vc fd, e = .returned (.tuple #[.slice va vn vc, .bool fd]) ∧ Below X.heap.size X w' ∧ GotIt w L k va vn vc fd := by
  obtain ⟨hb, ⟨x, hx, hk, rfl⟩ | ⟨rfl, hn⟩⟩ := h
  · obtain ⟨a, n, c, e1, h1⟩ := (hT.oks x hx).2
    refine ⟨a, n, c, true, by rw [e1], hb, .inl ⟨rfl, x.2.2.2, mem_cont.2 ⟨x, hx, ?_⟩, a, n, c, rfl, h1⟩⟩
    rw [← hk]
    rfl
  · exact ⟨none, 0, 0, false, rfl, hb, .inr ⟨rfl, rfl, rfl, rfl, hn⟩⟩
theorem got_none {w : World} {L : List Ent} {k : Nat} {va : Option Addr} {vn vc : Nat} (h : GotIt w L k va vn vc false) : va = none ∧ vn = 0 ∧ vc = 0 := by
  rcases h with ⟨h, -⟩ | ⟨-, h1, h2, h3, -⟩
  · cases h
  · exact ⟨h1, h2, h3⟩
theorem tells_true {w : World} {L : List Ent} {k : Nat} {va : Option Addr} {vn vc : Nat} {kv : Value} (h : GotIt w L k va vn vc true) : Tells w L (kv, .slice va vn vc, .bool false, k) := by
  rcases h with ⟨-, b, h1, h2⟩ | ⟨h, -⟩
  · exact .inl ⟨b, h1, h2, rfl⟩
  · cases h
theorem tells_false {w : World} {L : List Ent} {k : Nat} {kv : Value} (h : GotIt w L k none 0 0 false) : Tells w L (kv, .slice none 0 0, .bool true, k) := by
  rcases h with ⟨h, -⟩ | ⟨-, -, -, -, h⟩
  · cases h
  · exact .inr ⟨h, rfl, rfl⟩
theorem below_iter {w wr w2 : World} {r : Nat} (h : Below w.heap.size w wr) (hg : wr.grownBy w2 (some r)) (hr : w.heap.size ≤ r) : Below w.heap.size w w2 :=
  ⟨hg.os.trans h.os, hg.tape.trans h.tape, hg.output.trans h.output, Nat.le_trans h.size hg.size, fun j hj => (hg.block j (Nat.lt_of_lt_of_le hj h.size) (fun e => by simp only [Option.some.injEq] at e; omega)).trans (h.block j hj)⟩
theorem round_made {w2 : World} {cs : Array Value} {z : Nat × Nat} {ck k : Nat} (h : KeyBlk (w2.drew.alloc (.cells cs 5 z)) (.slice (some ⟨w2.heap.size, 0, none⟩) 2 ck) k) :
    ((w2.alloc (.cells cs 5 z)).alloc (.cells #[.slice (some ⟨w2.heap.size, 0, none⟩) 2 ck, .slice none 0 0, .bool false] 31)).drew.heap[w2.heap.size + 1]? = some (.cells #[.slice (some ⟨w2.heap.size, 0, none⟩) 2 ck, .slice none 0 0, .bool false] 31 (0, 0)) ∧ KeyBlk ((w2.alloc (.cells cs 5 z)).alloc (.cells #[.slice (some ⟨w2.heap.size, 0, none⟩) 2 ck, .slice none 0 0, .bool false] 31)).drew (.slice (some ⟨w2.heap.size, 0, none⟩) 2 ck) k ∧ Below w2.heap.size w2 ((w2.alloc (.cells cs 5 z)).alloc (.cells #[.slice (some ⟨w2.heap.size, 0, none⟩) 2 ck, .slice none 0 0, .bool false] 31)).drew ∧ w2.heap.size ≤ w2.heap.size + 1 := by
  have h' : KeyBlk (w2.alloc (.cells cs 5 z)) (.slice (some ⟨w2.heap.size, 0, none⟩) 2 ck) k := h
  refine ⟨?_, (h'.below ((Below.refl _ _).alloc (Nat.le_refl _) _)).below (Below.refl _ _).drew, (((Below.refl _ _).alloc (Nat.le_refl _) _).alloc (by simp) _).drew, by omega⟩
  have := (MapKept.heap_alloc (w2.alloc (.cells cs 5 z)) (.cells #[.slice (some ⟨w2.heap.size, 0, none⟩) 2 ck, .slice none 0 0, .bool false] 31)).1
  have e : (w2.alloc (.cells cs 5 z)).heap.size = w2.heap.size + 1 := by simp
  rw [e] at this
  exact this
theorem round_set {w wr w2 X0 wc : World} {kb N ck k mb r n j cnt : Nat} {D : DataW Unit} {L : List Ent} {W : Nat → Bool} {v x : Value} {G : List Gh} {left : Lit → Bool} (hkb : w2.heap.size = kb)
    (hX : X0.heap[N]? = some (.cells #[.slice (some ⟨kb, 0, none⟩) 2 ck, .slice none 0 0, .bool false] 31 (0, 0)) ∧ KeyBlk X0 (.slice (some ⟨kb, 0, none⟩) 2 ck) k ∧ Below kb w2 X0 ∧ kb ≤ N) (hb : Below X0.heap.size X0 wc) (hI : OpsInv w wr mb r n D L W v G left cnt) (hg : wr.grownBy w2 (some r)) :
    Below w2.heap.size w2 (wc.setCell ⟨N, j, none⟩ x) ∧ KeyBlk (wc.setCell ⟨N, j, none⟩ x) (.slice (some ⟨kb, 0, none⟩) 2 ck) k ∧ (wc.setCell ⟨N, j, none⟩ x).ownsRow w.heap.size 31 3 v G.length (G.flatMap enc3) := by
  subst hkb
  obtain ⟨h1, h2, h3, h4⟩ := hX
  have hc : Below w2.heap.size w2 wc := h3.trans (hb.mono h3.size)
  have hN : wc.heap[N]? = some (.cells #[.slice (some ⟨w2.heap.size, 0, none⟩) 2 ck, .slice none 0 0, .bool false] 31 (0, 0)) := (hb.block N (lt_of_block h1)).trans h1
  refine ⟨⟨hc.os, hc.tape, hc.output, by simpa [World.setCell] using hc.size, fun i hi => ?_⟩, (h2.below hb).but (But.cell _) (fun cs z e => ?_), ?_⟩
  · rw [Below.heap_setCell wc ⟨N, j, none⟩ x i (by show i ≠ N; omega)]
    exact hc.block i hi
  · rw [hN] at e
    simp at e
  · have ho := hI.2.2.2.1
    have hrow := row_block ho
    obtain ⟨-, ia, ib, ic, id', hr⟩ := rng_blocks hI.1
    have o2 : w2.ownsRow w.heap.size 31 3 v G.length (G.flatMap enc3) := ho.kept hg (by
      cases e : v.ownBlock with
      | none => exact .inl rfl
      | some i =>
        right
        intro e2
        simp only [Option.some.injEq] at e2
        subst e2
        obtain ⟨-, cur, h⟩ := hrow i e
        rw [hr] at h
        cases h)
    have o3 : wc.ownsRow w.heap.size 31 3 v G.length (G.flatMap enc3) := o2.kept (row := none) ⟨hc.os, hc.tape, hc.output, hc.size, fun i hi _ => hc.block i hi⟩ (by
      cases e : v.ownBlock with
      | none => exact .inl rfl
      | some i => exact .inr (by simp))
    refine ownsRow_setOther o3 (fun e => ?_)
    obtain ⟨-, cur, h⟩ := row_block o2 N e
    have := lt_of_block h
    omega
theorem nodup_len : ∀ (l m : List Nat), l.Nodup → (∀ x ∈ l, x ∈ m) → l.length ≤ m.length
  | [], m, _, _ => Nat.zero_le _
  | x :: l, m, h, hs => by
    obtain ⟨h1, h2⟩ := List.nodup_cons.1 h
    have hx := hs x (List.mem_cons_self ..)
    have := nodup_len l (m.erase x) h2 (fun y hy => by
      have hne : y ≠ x := fun e => h1 (by rw [← e]; exact hy)
      exact (List.mem_erase_of_ne hne).2 (hs y (List.mem_cons_of_mem _ hy)))
    rw [List.length_erase_of_mem hx] at this
    have h3 := List.length_pos_of_mem hx
    simp only [List.length_cons]
    omega
theorem ginv_len {w wr : World} {mb r n cnt : Nat} {D : DataW Unit} {L : List Ent} {W : Nat → Bool} {v : Value} {G : List Gh} {left : Lit → Bool} (hI : OpsInv w wr mb r n D L W v G left cnt) : G.length ≤ 40 := by
  obtain ⟨-, -, -, -, -, h6, h7, -⟩ := hI
  have hsub : ∀ x ∈ G.map gk, x ∈ List.range 40 := fun x hx => by
    obtain ⟨g, hg, rfl⟩ := List.mem_map.1 hx
    obtain ⟨-, -, -, -, -, -, -, h, -⟩ := (h6 g hg).1
    exact List.mem_range.2 h
  have := nodup_len (G.map gk) (List.range 40) h7 hsub
  simpa using this

set_option maxRecDepth 100000 in
set_option maxHeartbeats 1000000 in
theorem closure_nil (W : World) : Calls Ybaf.prog 23 #[.agg #[.slice none 0 0, .slice none 0 0, .bool false], .agg #[.slice none 0 0, .slice none 0 0, .bool false]] W fun e w' => e = .returned (.int .i64 (cmpN 0 0)) ∧ ∃ q os', w' = Go.Sort.grow (W.drewN q) os' := by
  have hcon : Hid (∀ W', Calls Ybaf.prog 24 #[.slice none 0 0, .slice none 0 0] W' fun e w' => e = .returned (.int .i64 (cmpN 0 0)) ∧ w' = W') := fun W' => compare_any (BytesAt.nil W' none) (BytesAt.nil W' none)
  generalize cmpN 0 0 = r at hcon ⊢
  go_enter Ybaf.func23, Ybaf.ntmps23
  go_wp2_with (go_at_call 24; refine (hcon.out _).mono ?_; rintro e w' ⟨rfl, rfl⟩)
  go_ret
  exact ⟨rfl, 0, _, by rw [Go.Sort.alloc_eq_grow, Go.Sort.alloc_eq_grow, Go.Sort.grow_grow]; rfl⟩
set_option maxRecDepth 100000 in
theorem sort_empty {w : World} {blk cap : Nat} (hblk : blk < w.heap.size) : Calls Ybaf.prog 22 #[.slice (some ⟨blk, 0, none⟩) 0 cap, .func (.func 23) #[] #[]] w fun e w' => e = .returned (.tuple #[]) ∧ But blk w w' ∧ w'.os = w.os ∧ w'.tape = w.tape ∧ w'.output = w.output := by
  have eg : ∀ args w, (callFunc 23 args).run Ybaf.prog w = .ok (.enter 23 args) w := enters_of Ybaf.func23 (by kernel_rfl) rfl
  have hcmp : CmpLays Ybaf.prog 23 #[] (fun _ : Unit => [.slice none 0 0, .slice none 0 0, .bool false]) 3 (fun _ _ => cmpN 0 0) blk 0 (#[] : Array Unit).size w := fun m os dk hs x y => closure_nil _
  have hcon := AnyQ.slices_SortFunc Ybaf.sortOps 3 Ybaf.isAgg31 Ybaf.sizeOf31 (fun _ : Unit => [.slice none 0 0, .slice none 0 0, .bool false]) (fun _ => rfl) (fun x v hv => by simp at hv; rcases hv with rfl | rfl <;> rfl) (fun _ _ => cmpN 0 0) (swoN (fun _ => 0)) 23 #[] blk 0 cap #[] w eg hcmp (fun t ht => by simp at ht) hblk (by simp)
  change Calls Ybaf.prog 22 _ _ _ at hcon
  refine hcon.mono ?_
  rintro e w' ⟨rfl, d', n, os, hp, hs, rfl⟩
  exact ⟨rfl, sortWorld_but _ _ _ _ _ _ _ _, rfl, rfl, rfl⟩
theorem flat_at : ∀ (G : List Gh) (j : Nat) (hj : j < G.length), (G.flatMap enc3)[3 * j]? = some G[j].1 ∧ (G.flatMap enc3)[3 * j + 1]? = some G[j].2.1 ∧ (G.flatMap enc3)[3 * j + 2]? = some G[j].2.2.1
  | [], j, hj => by simp at hj
  | g :: G, 0, _ => by simp [enc3]
  | g :: G, j + 1, hj => by
    have h := flat_at G j (by simpa using hj)
    have e : ∀ i, ((g :: G).flatMap enc3)[3 + i]? = (G.flatMap enc3)[i]? := fun i => by
      rw [List.flatMap_cons, List.getElem?_append_right (by simp [enc3])]
      congr 1
      simp [enc3]
    have e0 : 3 * (j + 1) = 3 + 3 * j := by omega
    refine ⟨?_, ?_, ?_⟩
    · rw [e0, e]; simpa using h.1
    · rw [e0, Nat.add_assoc, e]; simpa using h.2.1
    · rw [e0, Nat.add_assoc, e]; simpa using h.2.2
theorem Tells.below {w w' : World} {L : List Ent} {g : Gh} (h : Tells w L g) (hb : Below w.heap.size w w') : Tells w' L g := by
  rcases h with ⟨b, h1, h2, h3⟩ | h
  · exact .inl ⟨b, h1, h2.below hb, h3⟩
  · exact .inr h
theorem pair_strict {G : List Gh} (h1 : G.Pairwise (fun x y => gk x ≤ gk y)) (h2 : (G.map gk).Nodup) : G.Pairwise (fun x y => gk x < gk y) := by
  induction G with
  | nil => simp
  | cons g G ih =>
    obtain ⟨a1, a2⟩ := List.pairwise_cons.1 h1
    rw [List.map_cons, List.nodup_cons] at h2
    refine List.pairwise_cons.2 ⟨fun x hx => ?_, ih a2 h2.2⟩
    have := a1 x hx
    have hne : gk g ≠ gk x := fun e => h2.1 (by rw [e]; exact List.mem_map_of_mem hx)
    omega
theorem ops_end {w wr : World} {mb r n cnt : Nat} {D : DataW Unit} {L : List Ent} {W : Nat → Bool} {v : Value} {G : List Gh} {left : Lit → Bool} (hI : OpsInv w wr mb r n D L W v G left cnt) (hl : ∀ kl, left kl = false) :
    ∃ blk cap, v = .slice (some ⟨blk, 0, none⟩) G.length cap ∧ Calls Ybaf.prog 22 #[.slice (some ⟨blk, 0, none⟩) G.length cap, .func (.func 23) #[] #[]] wr fun e w' => e = .returned (.tuple #[]) ∧ ∃ G' : List Gh, G'.length = G.length ∧ OpsPost w L W blk G' w' := by
  have hlen := ginv_len hI
  obtain ⟨h1, h2, h3, h4, h5, h6, h7, h8, h9⟩ := hI
  rcases id h4.2 with ⟨e, -⟩ | ⟨blk, cap, cur, rfl, hB, hc, -⟩
  · exact absurd e h5
  · refine ⟨blk, cap, rfl, ?_⟩
    have hkeep : ∀ w', But blk wr w' → w'.os = wr.os → w'.tape = wr.tape → w'.output = wr.output → Below w.heap.size w w' := fun w' hb e1 e2 e3 =>
      ⟨e1.trans h2.os, e2.trans h2.tape, e3.trans h2.output, Nat.le_trans h2.size hb.1, fun j hj => (hb.2 j (Nat.lt_of_lt_of_le hj h2.size) (by omega)).trans (h2.block j hj)⟩
    have hty : ∀ cs z, wr.heap[blk]? ≠ some (.cells cs 5 z) := fun cs z e => by rw [hc] at e; simp at e
    have hW : ∀ k, k < 40 → (W k = true ↔ k ∈ G.map gk) := fun k hk => by
      constructor
      · intro hw
        rcases h8 k hk hw with h | h
        · rw [hl] at h; cases h
        · exact h
      · intro hm
        obtain ⟨g, hg, rfl⟩ := List.mem_map.1 hm
        exact (h9 g hg).2
    by_cases hG : G.length = 0
    · obtain rfl : G = [] := List.eq_nil_of_length_eq_zero hG
      refine (sort_empty (lt_of_block hc)).mono ?_
      rintro e w' ⟨rfl, hb, e1, e2, e3⟩
      exact ⟨rfl, [], rfl, fun j hj => by simp at hj, by simp, hW, by simp, hkeep w' hb e1 e2 e3⟩
    · have hrow : RowG wr blk G := fun j hj => by
        have hf := flat_at G j hj
        refine ⟨?_, ?_, ?_⟩
        · rw [h4.cellAt (3 * j) (by omega)]; exact hf.1
        · rw [h4.cellAt (3 * j + 1) (by omega)]; exact hf.2.1
        · rw [h4.cellAt (3 * j + 2) (by omega)]; exact hf.2.2
      refine (sort_ops hrow (fun o => by simp [World.frozen?, hc]) (lt_of_block hc) (by omega) (by omega) (fun g hg X hX => ((h6 g hg).1.but hX hty).keyAt) (fun g hg v hv => ?_)).mono ?_
      · have ho := (h6 g hg).2.one
        simp only [enc3, List.mem_cons, List.not_mem_nil, or_false] at hv
        rcases hv with rfl | rfl | rfl
        · exact (h6 g hg).1.one
        · exact ho.1
        · exact ho.2
      · rintro e w' ⟨rfl, G', hp, hs, hr, hb, e1, e2, e3⟩
        have hbel := hkeep w' hb e1 e2 e3
        have hpm := hp.map gk
        refine ⟨rfl, G', hp.length_eq, hr, pair_strict hs (hpm.nodup_iff.2 h7), fun k hk => (hW k hk).trans hpm.mem_iff.symm, fun g hg => ?_, hbel⟩
        have hg' := h6 g (hp.mem_iff.1 hg)
        exact ⟨(hg'.1.but hb hty).keyAt, hg'.2.below hbel⟩

set_option maxRecDepth 100000 in
set_option maxHeartbeats 4000000 in
theorem ops_sess {w : World} {sb mb n : Nat} {st : Addr} {root : Option Addr} {L : List Ent} {W : Nat → Bool}
    (hS : Sess w sb st (.pointer root) mb) (hT : TreeE w (.pointer root) L) (hM : MapE w mb n W) (hn : n < 2000) :
    Calls Ybaf.prog 12 #[.pointer (some ⟨sb, 0, none⟩)] w fun e w' => ∃ blk cap G, e = .returned (.slice (some ⟨blk, 0, none⟩) (G : List Gh).length cap) ∧ Hid (OpsPost w L W blk G w') := by
  obtain ⟨D, hD, hDW⟩ := hM
  have HS : Hid (Sess w sb st (.pointer root) mb) := hS
  have HT : Hid (TreeE w (.pointer root) L) := hT
  have HDW : Hid (∀ kl, Maps.has D kl = true ↔ ∃ k, k < 40 ∧ W k = true ∧ kl = lit k) := hDW
  have HD : Hid (w.ownsMap Ybaf.prog 9 unitElem mb n D) := hD
  have s4 : w.cell? ⟨sb, 4, none⟩ = some (.map (some mb)) := hS.cells.2.2.2.1
  obtain ⟨i0, hi, hz0, hz1, hz2⟩ := info_parts info31
  have hsz : Maps.size D ≤ n := hD.size_le
  clear hS hT hDW hD
  go_enter Ybaf.func12, Ybaf.ntmps12
  go_upto_region 2 with (first
    | (at_len; refine wpList_len_own _ rfl _ 56 rfl 9 49 Ybaf.underlying56 _ mb n D rfl HD.out ?_)
    | (at_make; refine wpList_make_own _ rfl _ _ 23 rfl w.heap.size 31 i0 _ 3 Ybaf.underlying23 hi hz0 hz1 .i64 .i64 _ (Maps.size D) rfl rfl rfl (by rw [hz2]; omega) (by unfold maxLen; omega) (Nat.le_refl _) ?_; intro w1 hown1 hg1)
    | go_in)
  have HB1 : Hid (Below w.heap.size w w1) := ⟨hg1.os, hg1.tape, hg1.output, hg1.size, fun j hj => hg1.block j hj (by simp)⟩
  have HD1 : Hid (w1.ownsMap Ybaf.prog 9 unitElem mb n D) := HD.out.kept hg1 (by simp)
  have HO1 : Hid (w1.ownsRow w.heap.size 31 3 (.slice (some ⟨w.heap.size, 0, none⟩) 0 (Maps.size D)) 0 []) := hown1
  have s41 : w1.cell? ⟨sb, 4, none⟩ = some (.map (some mb)) := k1_of s4 HB1.out
  clear hown1 hg1 hi hz0 hz1 hz2 HD s4
  go_wp2_with (first
    | (at_range; refine wpList_range_own _ rfl _ 56 rfl 9 49 keyed9 Ybaf.underlying56 _ mb n D rfl HD1.out ?_; intro w0 hrg0 hg0 hs0)
    | go_in)
  go_frame
  have HStart : Hid (OpsInv w w0 mb w1.heap.size n D L W (.slice (some ⟨w.heap.size, 0, none⟩) 0 (Maps.size D)) [] (Maps.has D) (Maps.size D)) := by
    have hb0 : Below w1.heap.size w1 w0 := ⟨hg0.os, hg0.tape, hg0.output, hg0.size, fun j hj => hg0.block j hj (by simp)⟩
    refine ⟨hrg0, HB1.out.trans (hb0.mono HB1.out.size), HB1.out.size, HO1.out.kept hg0 (.inr (by simp [Value.ownBlock])), by simp, by simp, by simp, fun k hk hW => .inl ((HDW.out _).2 ⟨k, hk, hW, rfl⟩), by simp⟩
  clear hrg0 hg0 hs0 HD1 HO1 s41
  generalize w1.heap.size = r at *
  clear HB1
  go_loopw [3] (fun v wr => ∃ G left cnt, Hid (OpsInv w wr mb r n D L W v G left cnt) ∧ Hid (∀ kl, left kl = true → ∃ k, k < 40 ∧ W k = true ∧ kl = lit k)) (fun _ wr => wr.rangeLeft mb r)
  case atStart => exact ⟨[], _, _, HStart, fun kl h => (HDW.out kl).1 h⟩
  case round =>
    obtain ⟨G, left, cnt, HI, HL⟩ := hrel
    clear HStart HDW
    go_wp2_with (first
      | (at_next; refine wpList_next_ranges _ rfl _ rfl 9 keyed9 unitElem (fun x : ByteArray => Value.string x) (fun _ : Unit => Value.agg #[]) (fun key kl h => Maps.keyOf_string_inv Ybaf.underlying9 h) (fun v y h => ⟨(), (unitElem_inv h).1⟩) mb r n D _ _ rfl HI.out.1 ?_ ?_)
      | go_in)
    · intro hc0 hl0
      obtain ⟨blk, cap, rfl, HF⟩ := ops_end HI.out hl0
      have HF2 : Hid (Calls Ybaf.prog 22 #[.slice (some ⟨blk, 0, none⟩) G.length cap, .func (.func 23) #[] #[]] wr fun e w' => e = .returned (.tuple #[]) ∧ ∃ G' : List Gh, G'.length = G.length ∧ OpsPost w L W blk G' w') := HF
      clear HF HI HL hl0 hc0
      go_wp2_with fail
      refine HF2.out.mono ?_
      rintro e w' ⟨rfl, G', hl, hp⟩
      have HP : Hid (OpsPost w L W blk G' w') := hp
      have HLn : Hid (G'.length = G.length) := hl
      clear hp hl HF2
      go_wp2
      go_ret
      exact ⟨blk, cap, G', by rw [HLn.out]; rfl, HP⟩
    · intro x kl y1 y2 w2 cnt1 hkey hlk hv hat hrg1 hlt hg2 hs2 hen
      obtain ⟨k, hk40, hWk, rfl⟩ := HL.out kl hlk
      obtain rfl := key_str hkey
      obtain ⟨ck, cs, z, hcv, hKB⟩ := bytes_key w2 hk40
      have HKB : Hid (KeyBlk (w2.drew.alloc (.cells cs 5 z)) (.slice (some ⟨w2.heap.size, 0, none⟩) 2 ck) k) := hKB
      have HLk : Hid (left (lit k) = true ∧ W k = true) := ⟨hlk, hWk⟩
      have HR1 : Hid (w2.ranges Ybaf.prog 9 unitElem mb r n D (fun z => left z && !z.sameKey (lit k)) cnt1) := hrg1
      have HG2 : Hid (wr.grownBy w2 (some r)) := hg2
      have HLt : Hid (cnt1 < cnt) := hlt
      clear hkey hlk hv hat hrg1 hg2 hs2 hKB hWk hlt
      go_upto_region 6 with (fail)
      have HX : Hid (((w2.alloc (.cells cs 5 z)).alloc (.cells #[.slice (some ⟨w2.heap.size, 0, none⟩) 2 ck, .slice none 0 0, .bool false] 31)).drew.heap[w2.heap.size + 1]? = some (.cells #[.slice (some ⟨w2.heap.size, 0, none⟩) 2 ck, .slice none 0 0, .bool false] 31 (0, 0)) ∧ KeyBlk ((w2.alloc (.cells cs 5 z)).alloc (.cells #[.slice (some ⟨w2.heap.size, 0, none⟩) 2 ck, .slice none 0 0, .bool false] 31)).drew (.slice (some ⟨w2.heap.size, 0, none⟩) 2 ck) k ∧ Below w2.heap.size w2 ((w2.alloc (.cells cs 5 z)).alloc (.cells #[.slice (some ⟨w2.heap.size, 0, none⟩) 2 ck, .slice none 0 0, .bool false] 31)).drew ∧ w2.heap.size ≤ w2.heap.size + 1) := round_made HKB.out
      clear HKB hcv hen
      generalize ((w2.alloc (.cells cs 5 z)).alloc (.cells #[.slice (some ⟨w2.heap.size, 0, none⟩) 2 ck, .slice none 0 0, .bool false] 31)).drew = X0 at *
      generalize w2.heap.size + 1 = N at *
      generalize hkb : w2.heap.size = kb at HX ⊢
      have HKb : Hid (w2.heap.size = kb) := hkb
      clear hkb
      have HB2 : Hid (Below w.heap.size w w2) := below_iter HI.out.2.1 HG2.out HI.out.2.2.1
      have HBX : Hid (Below w.heap.size w X0) := HB2.out.trans ((show Below w2.heap.size w2 X0 by rw [HKb.out]; exact HX.out.2.2.1).mono HB2.out.size)
      have HGet : Hid (∀ X, Below X0.heap.size X0 X → Calls Ybaf.prog 21 #[.pointer root, .slice (some ⟨kb, 0, none⟩) 2 ck] X fun e w' => ∃ va vn vc fd, e = .returned (.tuple #[.slice va vn vc, .bool fd]) ∧ Below X.heap.size X w' ∧ GotIt w L k va vn vc fd) := fun X hX => by
        have hbw : Below w.heap.size w X := HBX.out.trans (hX.mono HBX.out.size)
        exact (get_tree (HT.out.below hbw) (HX.out.2.1.keyAt.below hX)).mono fun e w' h => got_of HT.out h
      have s3 : X0.cell? ⟨sb, 3, none⟩ = some (.pointer root) := (HS.out.below HBX.out).cells.2.2.1
      have e0 : X0.cell? ⟨N, 0, none⟩ = some (.slice (some ⟨kb, 0, none⟩) 2 ck) := box_cell HX.out.1 0
      go_cut [6, 7] from 26 to 35 (fun a b wx => ∃ va vn vc fd, a = .slice va vn vc ∧ b = .bool fd ∧ Hid (Below X0.heap.size X0 wx ∧ GotIt w L k va vn vc fd))
      case first =>
        go_region_held3 (fun w' => w'.cell? ⟨sb, 3, none⟩ = some (.pointer root) ∧ w'.cell? ⟨N, 0, none⟩ = some (.slice (some ⟨kb, 0, none⟩) 2 ck)) (go_keep) ((go_at_call 21; refine (HGet.out _ (Below.refl _ _).drew).mono ?_; rintro e X1 ⟨va, vn, vc, fd, rfl, hb, hgot⟩; have q1 := k1_of (W := X0.drew) s3 hb; have q2 := k1_of (W := X0.drew) e0 hb; have HGo : Hid (Below X0.heap.size X0 X1 ∧ GotIt w L k va vn vc fd) := ⟨((Below.refl _ _).drew : Below X0.heap.size X0 X0.drew).trans hb, hgot⟩; clear hb hgot))
        all_goals
          go_wp2_with fail
          go_meet
          exact ⟨va, vn, vc, fd, rfl, rfl, HGo⟩
      case rest =>
        obtain ⟨va, vn, vc, fd, rfl, rfl, HGo⟩ := hcut
        clear s3 e0 HGet
        have HBc : Hid (wc.heap[N]? = some (.cells #[.slice (some ⟨kb, 0, none⟩) 2 ck, .slice none 0 0, .bool false] 31 (0, 0))) := (HGo.out.1.block N (lt_of_block HX.out.1)).trans HX.out.1
        have e0 : wc.cell? ⟨N, 0, none⟩ = some (.slice (some ⟨kb, 0, none⟩) 2 ck) := box_cell HBc.out 0
        have e1 : wc.cell? ⟨N, 1, none⟩ = some (.slice none 0 0) := box_cell HBc.out 1
        have e2 : wc.cell? ⟨N, 2, none⟩ = some (.bool false) := box_cell HBc.out 2
        have f1 : wc.frozen? ⟨N, 1, none⟩ = false := box_free HBc.out 1
        have f2 : wc.frozen? ⟨N, 2, none⟩ = false := box_free HBc.out 2
        have HGn : Hid (G.length ≤ 40) := ginv_len HI.out
        have hG := HGn.out
        cases fd with
        | true =>
          have HW2 : Hid (Below w2.heap.size w2 (wc.setCell ⟨N, 1, none⟩ (.slice va vn vc)) ∧ KeyBlk (wc.setCell ⟨N, 1, none⟩ (.slice va vn vc)) (.slice (some ⟨kb, 0, none⟩) 2 ck) k ∧ (wc.setCell ⟨N, 1, none⟩ (.slice va vn vc)).ownsRow w.heap.size 31 3 u3 G.length (G.flatMap enc3)) := round_set HKb.out HX.out HGo.out.1 HI.out HG2.out
          have HTe : Hid (Tells w L (.slice (some ⟨kb, 0, none⟩) 2 ck, .slice va vn vc, .bool false, k)) := tells_true HGo.out.2
          clear HGo HBc
          go_wp2_with (at_builtin; refine wpList_append_op (wc.setCell ⟨N, 1, none⟩ (.slice va vn vc)) rfl _ _ rfl w.heap.size G.length wc.heap.size u3 (.slice (some ⟨kb, 0, none⟩) 2 ck) (.slice va vn vc) (.bool false) (G.flatMap enc3) (by simp) rfl HW2.out.2.2 rfl rfl rfl rfl (by omega) (HB2.out.trans (HW2.out.1.mono HB2.out.size)).size ?_; intro v' w5 hown' hg hv')
          have HN : Hid (OpsInv w w5 mb r n D L W v' (G ++ [(.slice (some ⟨kb, 0, none⟩) 2 ck, .slice va vn vc, .bool false, k)]) (fun z => left z && !z.sameKey (lit k)) cnt1) := HI.out.push (N := 0) hk40 HLk.out.2 HLk.out.1 HR1.out HG2.out HW2.out.1 HW2.out.2.1 HTe.out hown' hg hv' HW2.out.2.2
          have HL2 : Hid (∀ kl, (left kl && !kl.sameKey (lit k)) = true → ∃ k, k < 40 ∧ W k = true ∧ kl = lit k) := fun kl h => HL.out kl (by simp at h; exact h.1)
          clear hown' hg hv' HTe
          go_wp2
          go_roundw
          case rel => exact ⟨_, _, _, HN, HL2⟩
          case measure => rw [HN.out.1.left_eq, HI.out.1.left_eq]; exact HLt.out
        | false =>
          obtain ⟨rfl, rfl, rfl⟩ : va = none ∧ vn = 0 ∧ vc = 0 := got_none HGo.out.2
          have HW2 : Hid (Below w2.heap.size w2 (wc.setCell ⟨N, 2, none⟩ (.bool true)) ∧ KeyBlk (wc.setCell ⟨N, 2, none⟩ (.bool true)) (.slice (some ⟨kb, 0, none⟩) 2 ck) k ∧ (wc.setCell ⟨N, 2, none⟩ (.bool true)).ownsRow w.heap.size 31 3 u3 G.length (G.flatMap enc3)) := round_set HKb.out HX.out HGo.out.1 HI.out HG2.out
          have HTe : Hid (Tells w L (.slice (some ⟨kb, 0, none⟩) 2 ck, .slice none 0 0, .bool true, k)) := tells_false HGo.out.2
          clear HGo HBc
          go_wp2_with (at_builtin; refine wpList_append_op (wc.setCell ⟨N, 2, none⟩ (.bool true)) rfl _ _ rfl w.heap.size G.length wc.heap.size u3 (.slice (some ⟨kb, 0, none⟩) 2 ck) (.slice none 0 0) (.bool true) (G.flatMap enc3) (by simp) rfl HW2.out.2.2 rfl rfl rfl rfl (by omega) (HB2.out.trans (HW2.out.1.mono HB2.out.size)).size ?_; intro v' w5 hown' hg hv')
          have HN : Hid (OpsInv w w5 mb r n D L W v' (G ++ [(.slice (some ⟨kb, 0, none⟩) 2 ck, .slice none 0 0, .bool true, k)]) (fun z => left z && !z.sameKey (lit k)) cnt1) := HI.out.push (N := 0) hk40 HLk.out.2 HLk.out.1 HR1.out HG2.out HW2.out.1 HW2.out.2.1 HTe.out hown' hg hv' HW2.out.2.2
          have HL2 : Hid (∀ kl, (left kl && !kl.sameKey (lit k)) = true → ∃ k, k < 40 ∧ W k = true ∧ kl = lit k) := fun kl h => HL.out kl (by simp at h; exact h.1)
          clear hown' hg hv' HTe
          go_wp2
          go_roundw
          case rel => exact ⟨_, _, _, HN, HL2⟩
          case measure => rw [HN.out.1.left_eq, HI.out.1.left_eq]; exact HLt.out

end Go.Proofs.YbulkbgzmFmt
