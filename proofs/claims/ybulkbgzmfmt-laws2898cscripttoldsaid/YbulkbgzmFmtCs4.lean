/-
  CScript: A NODE THAT IS BEING BUILT; 'copy' into it; 'clone'.
-/
import Derived.Test.YbulkbgzmFmtCs3
import Derived.Deep.RegionLaw
import Derived.Laws.OwnMore
namespace Go.Proofs.YbulkbgzmFmt
open Go.RowKit Go.Stop
set_option linter.unusedVariables false

/-- Nothing but block g may be another. -/
def Keeps (g : Nat) (w w' : World) : Prop := w'.os = w.os ∧ w'.tape = w.tape ∧ w'.output = w.output ∧ w'.heap.size = w.heap.size ∧ ∀ k, k ≠ g → w'.heap[k]? = w.heap[k]?
theorem Keeps.refl (g : Nat) (w : World) : Keeps g w w := ⟨rfl, rfl, rfl, rfl, fun _ _ => rfl⟩
theorem Keeps.drew {g : Nat} {w w' : World} (h : Keeps g w w') : Keeps g w w'.drew := h
theorem Keeps.drewN {g : Nat} {w w' : World} (h : Keeps g w w') (n : Nat) : Keeps g w (w'.drewN n) := h
theorem Keeps.row {g : Nat} {w : World} (cs : Array Value) : Keeps g w (w.setRow g cs) := ⟨rfl, rfl, rfl, by simp, fun k hk => setRow_other w g k cs hk⟩
theorem Keeps.cell {g j : Nat} {w : World} (x : Value) : Keeps g w (w.setCell ⟨g, j, none⟩ x) := ⟨rfl, rfl, rfl, by simp [World.setCell], fun k hk => Below.heap_setCell w ⟨g, j, none⟩ x k hk⟩
theorem Keeps.below {B g : Nat} {a w w' : World} (h : Keeps g w w') (hb : Below B a w) (hB : B ≤ g) : Below B a w' :=
  hb.trans ⟨h.1, h.2.1, h.2.2.1, by rw [h.2.2.2.1]; exact Nat.le_refl _, fun k hk => h.2.2.2.2 k (by omega)⟩
theorem Keeps.node {g b : Nat} {w w' : World} {k v ch : Value} (h : Keeps g w w') (hN : NodeAt w b k v ch) (hb : b ≠ g) : NodeAt w' b k v ch := (h.2.2.2.2 b hb).trans hN

theorem step_copy_keep {P : Program} {ops : Array Oper} {o : Oper} {a : Act} {w : World} {K : Act → World → Prop} {Q : Exit → Act → World → Prop} {E : Prop} (hgd : o.guard = none) (d s : Operand) (dT sT : TypeId)
    (ho : o.op = .call { callee := .builtin .copy, args := #[d, s], argTypes := #[dT, sT] }) (elem : TypeId) (hu : P.underlying dT = some (.slice elem)) (hsz : (P.info? elem).map (·.size) = some 1)
    (dp sp : Option Addr) (dLen dCap sLen sCap : Nat) (hd : a.eval d = .slice dp dLen dCap) (hs : a.eval s = .slice sp sLen sCap)
    (g off : Nat) (cur : List Value) (t : TypeId) (hg : w.heap[g]? = some (.cells cur.toArray t (0, 0))) (cs : List Value) (hn : cs.length = Nat.min sLen dLen)
    (hpos : 0 < cs.length → dp = some ⟨g, off, none⟩ ∧ ∃ ad, sp = some ad ∧ ∀ j v, cs[j]? = some v → w.cell? (ad.add j) = some v)
    (hfit : off + cs.length ≤ cur.length) (h1 : ∀ v ∈ cs, v.oneCell' = true)
    (h : ∀ w', Hid (w'.heap[g]? = some (.cells (splice cur off cs).toArray t (0, 0))) → Hid (Keeps g w w') → K (a.put o.dst (goInt cs.length)) w') :
    if Region.wanted o (yielded ops a.tmps) = true then Oper.wp P o a w K Q else E := by
  have hw : Region.wanted o (yielded ops a.tmps) = true := by simp [Region.wanted, hgd]
  rw [if_pos hw]
  by_cases h0 : cs.length = 0
  · obtain rfl : cs = [] := List.eq_nil_of_length_eq_zero h0
    have hrun := run_copy_none (P := P) w dT sT o.type elem dp sp dLen dCap sLen sCap hu hsz (by simpa using hn.symm)
    unfold Oper.wp
    simp [execOp, ho, resolve, invoke, builtin, hd, hs, hrun, Result.andThen]
    exact h w (show _ = _ by simpa [splice] using hg) (Keeps.refl _ _)
  · obtain ⟨rfl, ad, rfl, hsrc⟩ := hpos (by omega)
    have hrun := run_copy_row (P := P) w dT sT o.type elem g off dLen dCap ad sLen sCap cur.toArray t cs hu hsz hg hn hsrc (by simpa using hfit) h1
    unfold Oper.wp
    simp [execOp, ho, resolve, invoke, builtin, hd, hs, hrun, Result.andThen]
    exact h _ (show _ = _ by simpa [splice] using setRow_heap w g _ _ t _ hg) (Keeps.row _)

/-- A leaf that is being built since w. -/
def Bld (w X : World) (b g n : Nat) (cur : List Value) : Prop := NewLeaf X b g n cur ∧ w.heap.size ≤ b ∧ w.heap.size ≤ g ∧ Below w.heap.size w X
theorem Bld.next {w X Y : World} {b g n : Nat} {cur cur' : List Value} (h : Bld w X b g n cur) (hk : Keeps g X Y) (hr : Y.heap[g]? = some (.cells cur'.toArray 22 (0, 0))) (hl : cur'.length = cur.length) : Bld w Y b g n cur' :=
  ⟨⟨hk.node h.1.1 h.1.2.2.2, hr, by rw [hl]; exact h.1.2.2.1, h.1.2.2.2⟩, h.2.1, h.2.2.1, hk.below h.2.2.2 h.2.2.1⟩
theorem Bld.other {w X Y : World} {b g n k : Nat} {cur : List Value} (h : Bld w X b g n cur) (hk : Keeps k X Y) (hb : b ≠ k) (hg : g ≠ k) (hw : w.heap.size ≤ k) : Bld w Y b g n cur :=
  ⟨⟨hk.node h.1.1 hb, (hk.2.2.2.2 g hg).trans h.1.2.1, h.1.2.2.1, h.1.2.2.2⟩, h.2.1, h.2.2.1, hk.below h.2.2.2 hw⟩
theorem Bld.below {w X Y : World} {b g n : Nat} {cur : List Value} (h : Bld w X b g n cur) (hb : Below X.heap.size X Y) : Bld w Y b g n cur :=
  ⟨⟨h.1.1.below hb, (hb.block g (lt_of_block h.1.2.1)).trans h.1.2.1, h.1.2.2.1, h.1.2.2.2⟩, h.2.1, h.2.2.1, h.2.2.2.trans (hb.mono h.2.2.2.size)⟩

theorem size22 : (Ybaf.prog.info? 22).map (·.size) = some 1 := by kernel_rfl
theorem size57 : (Ybaf.prog.info? 57).map (·.size) = some 1 := by kernel_rfl
/-- All of them slices. -/
def Sls (vs : List Value) : Prop := ∀ v ∈ vs, v.oneCell' = true

theorem RowAt.src {w X : World} {a : Option Addr} {vs : List Value} (h : RowAt w a vs) (hb : Below w.heap.size w X) (h0 : 0 < vs.length) : ∃ ad, a = some ad ∧ ∀ j v, vs[j]? = some v → X.cell? (ad.add j) = some v := by
  rcases h with rfl | ⟨g, o, rfl, h⟩
  · simp at h0
  · refine ⟨_, rfl, fun j v hj => ?_⟩
    rw [Addr.add_lit]
    exact (hb.cell (World.block_lt_of_cell? _ _ (h j v hj))).trans (h j v hj)

theorem splice_two (Z ks vs : List Value) (n : Nat) (hZ : Z.length = 2 * n) (hk : ks.length = n) (hv : vs.length = n) : splice (splice Z 0 ks) n vs = ks ++ vs := by
  subst hk
  have e1 : splice Z 0 ks = ks ++ Z.drop ks.length := by simp [splice]
  rw [e1]
  unfold splice
  rw [List.take_left' rfl, List.drop_eq_nil_of_le (by simp; omega), List.append_nil]

set_option maxRecDepth 100000 in
set_option maxHeartbeats 1000000 in
theorem clone_leaf {w : World} {p : Value} {ks vs : List Value} (h : LeafV w p ks vs) (hs1 : Sls ks) (hs2 : Sls vs) (hn : ks.length ≤ 64) :
    Calls Ybaf.prog 39 #[p] w fun e w' => ∃ b g, e = .returned (.pointer (some ⟨b, 0, none⟩)) ∧ Bld w w' b g ks.length (ks ++ vs) := by
  obtain ⟨b0, a1, c1, a2, c2, rfl, hN, hr1, hr2, hlen, -, -, -, -⟩ := h
  have h0 := hN.c0
  have h2 := hN.c2
  have n1 := nil89
  have HN : Hid (NodeAt w b0 (.slice a1 ks.length c1) (.slice a2 ks.length c2) (.slice none 0 0)) := hN
  have HR1 : Hid (RowAt w a1 ks) := hr1
  have HR2 : Hid (RowAt w a2 vs) := hr2
  have HS1 : Hid (Sls ks) := hs1
  have HS2 : Hid (Sls vs) := hs2
  have HL : Hid (vs.length = ks.length) := hlen
  clear hN hr1 hr2 hs1 hs2 hlen
  go_enter Ybaf.func39, Ybaf.ntmps39
  go_wp2_with fail
  refine (newLeaf_any ks.length hn w).mono ?_
  rintro e X ⟨b, g, rfl, hnew, hb, hg, hbel⟩
  have HB : Hid (Bld w X b g ks.length (List.replicate (2 * ks.length) (.slice none 0 0))) := ⟨hnew, hb, hg, hbel⟩
  clear hnew hb hg hbel h0 h2
  have k0 : X.cell? ⟨b0, 0, none⟩ = some (.slice a1 ks.length c1) := (HN.out.below HB.out.2.2.2).c0
  have m0 : X.cell? ⟨b, 0, none⟩ = some (.slice (some ⟨g, 0, none⟩) ks.length ks.length) := HB.out.1.1.c0
  generalize hZ : List.replicate (2 * ks.length) (Value.slice none 0 0) = Z at *
  have hZl : Z.length = 2 * ks.length := by rw [← hZ]; simp
  clear hZ
  go_upto_region 3 with (fail)
  go_cut [24] (fun _ wx => Hid (Bld w wx b g ks.length (splice Z 0 ks)))
  case first =>
    go_region_law (refine step_copy_keep rfl (.tmp 19) (.tmp 23) 35 35 rfl 22 Ybaf.underlying35 size22 (some ⟨g, 0, none⟩) a1 ks.length ks.length ks.length c1 (by simp [Act.eval]) (by simp [Act.eval]) g 0 Z 22 (by exact HB.out.1.2.1) ks (by simp) (fun h0 => ⟨rfl, HR1.out.src HB.out.2.2.2.drew h0⟩) (by omega) HS1.out ?_; intro X1 hr1 hk1)
    all_goals
      go_wp2_with fail
      go_meet
      exact HB.out.next hk1.out hr1.out (length_splice _ _ _ (by omega))
  case rest =>
    have HB1 : Hid (Bld w wc b g ks.length (splice Z 0 ks)) := hcut
    clear hcut k0 m0
    have hZ1 : (splice Z 0 ks).length = 2 * ks.length := by rw [length_splice _ _ _ (by omega)]; exact hZl
    have k1 : wc.cell? ⟨b0, 1, none⟩ = some (.slice a2 ks.length c2) := (HN.out.below HB1.out.2.2.2).c1
    have m1 : wc.cell? ⟨b, 1, none⟩ = some (.slice (some ⟨g, ks.length, none⟩) ks.length ks.length) := HB1.out.1.1.c1
    go_upto_region 4 with (fail)
    go_cut [33] (fun _ wx => Hid (Bld w wx b g ks.length (splice (splice Z 0 ks) ks.length vs)))
    case first =>
      go_region_law (refine step_copy_keep rfl (.tmp 28) (.tmp 32) 35 35 rfl 22 Ybaf.underlying35 size22 (some ⟨g, ks.length, none⟩) a2 ks.length ks.length ks.length c2 (by simp [Act.eval]) (by simp [Act.eval]) g ks.length (splice Z 0 ks) 22 (by exact HB1.out.1.2.1) vs (by rw [HL.out]; simp) (fun h0 => ⟨rfl, HR2.out.src HB1.out.2.2.2.drew h0⟩) (by rw [hZ1, HL.out]; omega) HS2.out ?_; intro X1 hr1 hk1)
      all_goals
        go_wp2_with fail
        go_meet
        exact HB1.out.next hk1.out hr1.out (length_splice _ _ _ (by rw [hZ1, HL.out]; omega))
    case rest =>
      have HB2 : Hid (Bld w wc b g ks.length (splice (splice Z 0 ks) ks.length vs)) := hcut
      clear hcut k1 m1 HB1
      go_wp2
      go_ret
      refine ⟨b, g, rfl, ?_⟩
      have := HB2.out
      rw [splice_two Z ks vs ks.length hZl rfl HL.out] at this
      exact this

end Go.Proofs.YbulkbgzmFmt
