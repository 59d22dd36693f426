/-
  CScript: an inner node that is being built; 'clone' of it.
-/
import Derived.Test.YbulkbgzmFmtCs4
namespace Go.Proofs.YbulkbgzmFmt
open Go.RowKit Go.Stop
set_option linter.unusedVariables false

/-- An inner node that is being built since w. -/
def BldI (w X : World) (b g h n : Nat) (ck ch : List Value) : Prop := NewInner X b g h n ck ch ∧ w.heap.size ≤ b ∧ w.heap.size ≤ g ∧ w.heap.size ≤ h ∧ Below w.heap.size w X
theorem BldI.keys {w X Y : World} {b g h n : Nat} {ck ch ck' : List Value} (H : BldI w X b g h n ck ch) (hk : Keeps g X Y) (hr : Y.heap[g]? = some (.cells ck'.toArray 22 (0, 0))) (hl : ck'.length = ck.length) : BldI w Y b g h n ck' ch := by
  obtain ⟨⟨h1, h2, h3, h4, h5, h6, h7, h8⟩, h9, h10, h11, h12⟩ := H
  exact ⟨⟨hk.node h1 h6, hr, (hk.2.2.2.2 h (fun e => h8 e.symm)).trans h3, by rw [hl]; exact h4, h5, h6, h7, h8⟩, h9, h10, h11, hk.below h12 h10⟩
theorem BldI.kids {w X Y : World} {b g h n : Nat} {ck ch ch' : List Value} (H : BldI w X b g h n ck ch) (hk : Keeps h X Y) (hr : Y.heap[h]? = some (.cells ch'.toArray 57 (0, 0))) (hl : ch'.length = ch.length) : BldI w Y b g h n ck ch' := by
  obtain ⟨⟨h1, h2, h3, h4, h5, h6, h7, h8⟩, h9, h10, h11, h12⟩ := H
  exact ⟨⟨hk.node h1 h7, (hk.2.2.2.2 g h8).trans h2, hr, h4, by rw [hl]; exact h5, h6, h7, h8⟩, h9, h10, h11, hk.below h12 h11⟩

theorem splice_all (Z ks : List Value) (h : Z.length = ks.length) : splice Z 0 ks = ks := by
  unfold splice
  rw [List.drop_eq_nil_of_le (by omega)]; simp

set_option maxRecDepth 100000 in
set_option maxHeartbeats 1000000 in
theorem clone_inner {w : World} {p : Value} {ks cs : List Value} (h : InnerV w p ks cs) (hs1 : Sls ks) (hs2 : Sls cs) (hn : cs.length ≤ 64) :
    Calls Ybaf.prog 39 #[p] w fun e w' => ∃ b g h, e = .returned (.pointer (some ⟨b, 0, none⟩)) ∧ BldI w w' b g h cs.length ks cs := by
  obtain ⟨b0, a1, c1, a2, c2, rfl, hN, hr1, hr2, hlen, -, -, -, ⟨g2, o2, rfl⟩⟩ := h
  have h0 := hN.c0
  have h2 := hN.c2
  have n1 := some89
  have HN : Hid (NodeAt w b0 (.slice a1 ks.length c1) (.slice none 0 0) (.slice (some ⟨g2, o2, none⟩) cs.length c2)) := hN
  have HR1 : Hid (RowAt w a1 ks) := hr1
  have HR2 : Hid (RowAt w (some ⟨g2, o2, none⟩) cs) := hr2
  have HS1 : Hid (Sls ks) := hs1
  have HS2 : Hid (Sls cs) := hs2
  have HL : Hid (cs.length = ks.length + 1) := hlen
  have hc1 : 1 ≤ cs.length := by omega
  have hkl : ks.length = cs.length - 1 := by omega
  have HKL : Hid (ks.length = cs.length - 1) := hkl
  clear hN hr1 hr2 hs1 hs2 hlen hkl
  go_enter Ybaf.func39, Ybaf.ntmps39
  go_wp2_with fail
  refine (newInner_any cs.length hc1 hn w).mono ?_
  rintro e X ⟨b, g, h, rfl, hnew, hb, hg, hh, hbel⟩
  have HB : Hid (BldI w X b g h cs.length (List.replicate (cs.length - 1) (.slice none 0 0)) (List.replicate cs.length (.pointer none))) := ⟨hnew, hb, hg, hh, hbel⟩
  clear hnew hb hg hh hbel h0 h2
  have k0 : X.cell? ⟨b0, 0, none⟩ = some (.slice a1 ks.length c1) := (HN.out.below HB.out.2.2.2.2).c0
  have m0 : X.cell? ⟨b, 0, none⟩ = some (.slice (some ⟨g, 0, none⟩) (cs.length - 1) (cs.length - 1)) := HB.out.1.1.c0
  generalize hZ : List.replicate (cs.length - 1) (Value.slice none 0 0) = Z at *
  have hZl : Z.length = cs.length - 1 := by rw [← hZ]; simp
  clear hZ
  generalize hY : List.replicate cs.length (Value.pointer none) = Y at *
  have hYl : Y.length = cs.length := by rw [← hY]; simp
  clear hY
  go_upto_region 7 with (fail)
  go_cut [49] (fun _ wx => Hid (BldI w wx b g h cs.length ks Y))
  case first =>
    go_region_law (refine step_copy_keep rfl (.tmp 44) (.tmp 48) 35 35 rfl 22 Ybaf.underlying35 size22 (some ⟨g, 0, none⟩) a1 (cs.length - 1) (cs.length - 1) ks.length c1 (by simp [Act.eval]) (by simp [Act.eval]) g 0 Z 22 (by exact HB.out.1.2.1) ks (by rw [HKL.out]; simp) (fun h0 => ⟨rfl, HR1.out.src HB.out.2.2.2.2.drew h0⟩) (by rw [HKL.out]; omega) HS1.out ?_; intro X1 hr1 hk1)
    all_goals
      go_wp2_with fail
      go_meet
      rw [splice_all Z ks (by rw [hZl, HKL.out])] at hr1
      exact HB.out.keys hk1.out hr1.out (by rw [hZl, HKL.out])
  case rest =>
    have HB1 : Hid (BldI w wc b g h cs.length ks Y) := hcut
    clear hcut k0 m0
    have k1 : wc.cell? ⟨b0, 2, none⟩ = some (.slice (some ⟨g2, o2, none⟩) cs.length c2) := (HN.out.below HB1.out.2.2.2.2).c2
    have m1 : wc.cell? ⟨b, 2, none⟩ = some (.slice (some ⟨h, 0, none⟩) cs.length cs.length) := HB1.out.1.1.c2
    go_upto_region 8 with (fail)
    go_cut [58] (fun _ wx => Hid (BldI w wx b g h cs.length ks cs))
    case first =>
      go_region_law (refine step_copy_keep rfl (.tmp 53) (.tmp 57) 89 89 rfl 57 Ybaf.underlying89 size57 (some ⟨h, 0, none⟩) (some ⟨g2, o2, none⟩) cs.length cs.length cs.length c2 (by simp [Act.eval]) (by simp [Act.eval]) h 0 Y 57 (by exact HB1.out.1.2.2.1) cs (by simp) (fun h0 => ⟨rfl, HR2.out.src HB1.out.2.2.2.2.drew h0⟩) (by omega) HS2.out ?_; intro X1 hr1 hk1)
      all_goals
        go_wp2_with fail
        go_meet
        rw [splice_all Y cs hYl] at hr1
        exact HB1.out.kids hk1.out hr1.out hYl.symm
    case rest =>
      have HB2 : Hid (BldI w wc b g h cs.length ks cs) := hcut
      clear hcut k1 m1 HB1
      go_wp2
      go_ret
      exact ⟨b, g, h, rfl, HB2.out⟩

end Go.Proofs.YbulkbgzmFmt
