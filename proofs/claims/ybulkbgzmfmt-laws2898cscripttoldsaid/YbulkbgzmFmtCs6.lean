/-
  CScript: 'split' of a leaf.
-/
import Derived.Test.YbulkbgzmFmtCs5
namespace Go.Proofs.YbulkbgzmFmt
open Go.RowKit Go.Stop
set_option linter.unusedVariables false

/-- A leaf made by newLeaf in world W. -/
def Mk (W X : World) (b g k : Nat) : Prop := NewLeaf X b g k (List.replicate (2 * k) (.slice none 0 0)) ∧ W.heap.size ≤ b ∧ W.heap.size ≤ g ∧ Below W.heap.size W X
theorem RowAt.take {w : World} {a : Option Addr} {vs : List Value} (h : RowAt w a vs) (m : Nat) : RowAt w a (vs.take m) := by
  rcases h with rfl | ⟨g, o, e, h⟩
  · exact .inl (by simp)
  · exact .inr ⟨g, o, e, fun j v hj => h j v (by rw [List.getElem?_take] at hj; split at hj; exact hj; cases hj)⟩
theorem RowAt.drop {w : World} {b o : Nat} {vs : List Value} (h : RowAt w (some ⟨b, o, none⟩) vs) (m : Nat) : RowAt w (some ⟨b, o + m, none⟩) (vs.drop m) := by
  rcases h with rfl | ⟨g, o', e, h⟩
  · exact .inl (by simp)
  · simp only [Option.some.injEq, Addr.mk.injEq, and_true] at e
    obtain ⟨rfl, rfl⟩ := e
    exact .inr ⟨b, o + m, rfl, fun j v hj => by rw [List.getElem?_drop] at hj; have := h (m + j) v hj; rw [← Nat.add_assoc] at this; exact this⟩
theorem Sls.take {vs : List Value} (h : Sls vs) (m : Nat) : Sls (vs.take m) := fun v hv => h v (List.mem_of_mem_take hv)
theorem Sls.drop {vs : List Value} (h : Sls vs) (m : Nat) : Sls (vs.drop m) := fun v hv => h v (List.mem_of_mem_drop hv)
theorem k1_of {W X : World} {a : Addr} {v : Value} (h : W.cell? a = some v) (hb : Below W.heap.size W X) : X.cell? a = some v := (hb.cell (World.block_lt_of_cell? _ _ h)).trans h
theorem two_made {w W0 X1 W1 X2 : World} {b1 g1 b2 g2 m r : Nat} (h1 : Mk W0 X1 b1 g1 m) (h2 : Mk W1 X2 b2 g2 r) (h0 : Below w.heap.size w W0) (h01 : Below X1.heap.size X1 W1) :
    Bld w X2 b1 g1 m (List.replicate (2 * m) (.slice none 0 0)) ∧ Bld w X2 b2 g2 r (List.replicate (2 * r) (.slice none 0 0)) ∧ g1 ≠ g2 ∧ b1 ≠ g2 ∧ b2 ≠ g1 := by
  obtain ⟨n1, l1, l2, e1⟩ := h1
  obtain ⟨n2, l3, l4, e2⟩ := h2
  have s0 := h0.size
  have s1 := e1.size
  have s2 := h01.size
  have lb := lt_of_block n1.1
  have lg := lt_of_block n1.2.1
  have B1 : Bld w X1 b1 g1 m (List.replicate (2 * m) (.slice none 0 0)) := ⟨n1, by omega, by omega, h0.trans (e1.mono s0)⟩
  have B2 := (B1.below h01).below e2
  exact ⟨B2, ⟨n2, by omega, by omega, B2.2.2.2⟩, by omega, by omega, by omega⟩

set_option maxRecDepth 100000 in
set_option maxHeartbeats 2000000 in
theorem split_leaf {w : World} {p : Value} {ks vs : List Value} {m : Nat} (h : LeafV w p ks vs) (hs1 : Sls ks) (hs2 : Sls vs) (hn : ks.length ≤ 64) (hm : m < ks.length) :
    Calls Ybaf.prog 42 #[p, .int .i64 m] w fun e w' => ∃ b1 g1 b2 g2 kv, e = .returned (.tuple #[.pointer (some ⟨b1, 0, none⟩), kv, .pointer (some ⟨b2, 0, none⟩)]) ∧ ks[m]? = some kv ∧
      Bld w w' b1 g1 m (ks.take m ++ vs.take m) ∧ Bld w w' b2 g2 (ks.length - m) (ks.drop m ++ vs.drop m) := by
  obtain ⟨b0, a1, c1, a2, c2, rfl, hN, hr1, hr2, hlen, hc1, hc2, ⟨ga1, oa1, rfl⟩, ⟨ga2, oa2, rfl⟩⟩ := h
  obtain ⟨r, hr⟩ : ∃ r, ks.length = m + r := ⟨ks.length - m, by omega⟩
  rw [show ks.length - m = r by omega]
  rw [hr] at hN hn hm hlen hc1 hc2
  obtain ⟨d1, rfl⟩ : ∃ d, c1 = m + d := ⟨c1 - m, by omega⟩
  obtain ⟨d2, rfl⟩ : ∃ d, c2 = m + d := ⟨c2 - m, by omega⟩
  have h0 := hN.c0
  have h2 := hN.c2
  have n1 := nil89
  have HN : Hid (NodeAt w b0 (.slice (some ⟨ga1, oa1, none⟩) (m + r) (m + d1)) (.slice (some ⟨ga2, oa2, none⟩) (m + r) (m + d2)) (.slice none 0 0)) := hN
  have HR1 : Hid (RowAt w (some ⟨ga1, oa1, none⟩) ks) := hr1
  have HR2 : Hid (RowAt w (some ⟨ga2, oa2, none⟩) vs) := hr2
  have HS1 : Hid (Sls ks) := hs1
  have HS2 : Hid (Sls vs) := hs2
  have HLK : Hid (ks.length = m + r) := hr
  have HL : Hid (vs.length = m + r) := hlen
  clear hN hr1 hr2 hs1 hs2 hlen hr
  have HC : Hid (∀ (k : Int) (X : World), 0 ≤ k → k ≤ 64 → Calls Ybaf.prog 30 #[.int .i64 k] X fun e Y => ∃ b g, e = .returned (.pointer (some ⟨b, 0, none⟩)) ∧ Mk X Y b g k.toNat) := fun k X h0 hk => by
    obtain ⟨k, rfl⟩ := Int.eq_ofNat_of_zero_le h0
    exact (newLeaf_any k (by omega) X).mono fun e Y ⟨b, g, h1, h2, h3, h4, h5⟩ => ⟨b, g, h1, h2, h3, h4, h5⟩
  have hwr : IntKind.i64.wrap (r : Int) = (r : Int) := IntWalk.i64_in _ ⟨by omega, by omega⟩
  have hsub : (m : Int) + (r : Int) - (m : Int) = (r : Int) := by omega
  go_enter Ybaf.func42, Ybaf.ntmps42
  go_upto_region 2 with (fail)
  go_cut [7, 8] (fun l rr wx => ∃ b1 g1 b2 g2, l = .pointer (some ⟨b1, 0, none⟩) ∧ rr = .pointer (some ⟨b2, 0, none⟩) ∧ Hid (Bld w wx b1 g1 m (List.replicate (2 * m) (.slice none 0 0)) ∧ Bld w wx b2 g2 r (List.replicate (2 * r) (.slice none 0 0)) ∧ g1 ≠ g2 ∧ b1 ≠ g2 ∧ b2 ≠ g1))
  case first =>
    go_region_with (go_at_call 30; refine (HC.out _ _ (by omega) (by omega)).mono ?_; rintro e X1 ⟨b1, g1, rfl, hmk⟩; have HM : Hid (Mk _ X1 b1 g1 _) := hmk; have k1 : X1.cell? ⟨b0, 0, none⟩ = some (.slice (some ⟨ga1, oa1, none⟩) (m + r) (m + d1)) := k1_of (by first | exact h0 | exact k1) hmk.2.2.2; clear hmk)
    all_goals
      go_wp2_with fail
      go_meet
      exact ⟨_, _, _, _, rfl, rfl, two_made (w := w) (‹Hid (Mk w.drew _ _ _ (Int.toNat (m : Int)))›).out HM.out ((Below.refl _ _).drew) (Below.refl _ _)⟩
  case rest =>
    obtain ⟨b1, g1, b2, g2, rfl, rfl, HBB⟩ := hcut
    clear HC hsub hwr h0
    generalize hZ1 : List.replicate (2 * m) (Value.slice none 0 0) = Z1 at *
    have hZ1l : Z1.length = 2 * m := by rw [← hZ1]; simp
    generalize hZ2 : List.replicate (2 * r) (Value.slice none 0 0) = Z2 at *
    have hZ2l : Z2.length = 2 * r := by rw [← hZ2]; simp
    clear hZ1 hZ2
    have HT1 : Hid ((ks.take m).length = m) := by show _ = _; rw [List.length_take, HLK.out]; omega
    have HT2 : Hid ((vs.take m).length = m) := by show _ = _; rw [List.length_take, HL.out]; omega
    have HD1 : Hid ((ks.drop m).length = r) := by show _ = _; rw [List.length_drop, HLK.out]; omega
    have HD2 : Hid ((vs.drop m).length = r) := by show _ = _; rw [List.length_drop, HL.out]; omega
    have k0 : wc.cell? ⟨b0, 0, none⟩ = some (.slice (some ⟨ga1, oa1, none⟩) (m + r) (m + d1)) := (HN.out.below HBB.out.1.2.2.2).c0
    have m0 : wc.cell? ⟨b1, 0, none⟩ = some (.slice (some ⟨g1, 0, none⟩) m m) := HBB.out.1.1.1.c0
    go_upto_region 3 with (fail)
    go_cut [34] (fun _ wx => Hid (Bld w wx b1 g1 m (splice Z1 0 (ks.take m)) ∧ Bld w wx b2 g2 r Z2 ∧ g1 ≠ g2 ∧ b1 ≠ g2 ∧ b2 ≠ g1))
    case first =>
      go_region_law (refine step_copy_keep rfl (.tmp 29) (.tmp 33) 35 35 rfl 22 Ybaf.underlying35 size22 (some ⟨g1, 0, none⟩) (some ⟨ga1, oa1, none⟩) m m (m + r) (m + d1) (by simp [Act.eval]) (by simp [Act.eval]) g1 0 Z1 22 (by exact HBB.out.1.1.2.1) (ks.take m) (by rw [HT1.out]; simp) (fun h0 => ⟨rfl, (HR1.out.take m).src HBB.out.1.2.2.2.drew h0⟩) (by rw [HT1.out, hZ1l]; omega) (HS1.out.take m) ?_; intro X1 hr1 hk1)
      all_goals
        go_wp2_with fail
        go_meet
        exact ⟨HBB.out.1.next hk1.out hr1.out (length_splice _ _ _ (by rw [HT1.out, hZ1l]; omega)), HBB.out.2.1.other hk1.out HBB.out.2.2.2.2 (Ne.symm HBB.out.2.2.1) HBB.out.1.2.2.1, HBB.out.2.2⟩
    case rest =>
      have HB1 : Hid (Bld w wc b1 g1 m (splice Z1 0 (ks.take m)) ∧ Bld w wc b2 g2 r Z2 ∧ g1 ≠ g2 ∧ b1 ≠ g2 ∧ b2 ≠ g1) := hcut
      clear hcut k0 m0 HBB
      have hZ3 : (splice Z1 0 (ks.take m)).length = 2 * m := by rw [length_splice _ _ _ (by rw [HT1.out, hZ1l]; omega)]; exact hZ1l
      have HE1 : Hid (splice (splice Z1 0 (ks.take m)) m (vs.take m) = ks.take m ++ vs.take m) := splice_two Z1 _ _ m hZ1l HT1.out HT2.out
      generalize splice Z1 0 (ks.take m) = Z3 at *
      have k0 : wc.cell? ⟨b0, 1, none⟩ = some (.slice (some ⟨ga2, oa2, none⟩) (m + r) (m + d2)) := (HN.out.below HB1.out.1.2.2.2).c1
      have m0 : wc.cell? ⟨b1, 1, none⟩ = some (.slice (some ⟨g1, m, none⟩) m m) := HB1.out.1.1.1.c1
      go_upto_region 4 with (fail)
      go_cut [43] (fun _ wx => Hid (Bld w wx b1 g1 m (ks.take m ++ vs.take m) ∧ Bld w wx b2 g2 r Z2 ∧ g1 ≠ g2 ∧ b1 ≠ g2 ∧ b2 ≠ g1))
      case first =>
        go_region_law (refine step_copy_keep rfl (.tmp 38) (.tmp 42) 35 35 rfl 22 Ybaf.underlying35 size22 (some ⟨g1, m, none⟩) (some ⟨ga2, oa2, none⟩) m m (m + r) (m + d2) (by simp [Act.eval]) (by simp [Act.eval]) g1 m Z3 22 (by exact HB1.out.1.1.2.1) (vs.take m) (by rw [HT2.out]; simp) (fun h0 => ⟨rfl, (HR2.out.take m).src HB1.out.1.2.2.2.drew h0⟩) (by rw [HT2.out, hZ3]; omega) (HS2.out.take m) ?_; intro X1 hr1 hk1)
        all_goals
          go_wp2_with fail
          go_meet
          rw [HE1.out] at hr1
          exact ⟨HB1.out.1.next hk1.out hr1.out (by rw [List.length_append, HT1.out, HT2.out, hZ3]; omega), HB1.out.2.1.other hk1.out HB1.out.2.2.2.2 (Ne.symm HB1.out.2.2.1) HB1.out.1.2.2.1, HB1.out.2.2⟩
      case rest =>
        have HB2 : Hid (Bld w wc b1 g1 m (ks.take m ++ vs.take m) ∧ Bld w wc b2 g2 r Z2 ∧ g1 ≠ g2 ∧ b1 ≠ g2 ∧ b2 ≠ g1) := hcut
        clear hcut k0 m0 HB1 HE1 hZ3 HT1 HT2 hZ1l
        clear Z1
        have hd1 : ¬ d1 = 0 := by omega
        have hmr : (m : Int) ≤ (m : Int) + (r : Int) := by omega
        have hrd1 : (m : Int) + (r : Int) ≤ (m : Int) + (d1 : Int) := by omega
        have hrd2 : (m : Int) + (r : Int) ≤ (m : Int) + (d2 : Int) := by omega
        have k0 : wc.cell? ⟨b0, 0, none⟩ = some (.slice (some ⟨ga1, oa1, none⟩) (m + r) (m + d1)) := (HN.out.below HB2.out.1.2.2.2).c0
        have m0 : wc.cell? ⟨b2, 0, none⟩ = some (.slice (some ⟨g2, 0, none⟩) r r) := HB2.out.2.1.1.1.c0
        go_upto_region 5 with (fail)
        go_cut [54] (fun _ wx => Hid (Bld w wx b1 g1 m (ks.take m ++ vs.take m) ∧ Bld w wx b2 g2 r (splice Z2 0 (ks.drop m)) ∧ g1 ≠ g2 ∧ b1 ≠ g2 ∧ b2 ≠ g1))
        case first =>
          go_region_law (refine step_copy_keep rfl (.tmp 47) (.tmp 53) 35 35 rfl 22 Ybaf.underlying35 size22 (some ⟨g2, 0, none⟩) (some ⟨ga1, oa1 + m, none⟩) r r r d1 (by simp [Act.eval, Act.put]) (by simp [Act.eval, Act.put]) g2 0 Z2 22 (by exact HB2.out.2.1.1.2.1) (ks.drop m) (by rw [HD1.out]; simp) (fun h0 => ⟨rfl, (HR1.out.drop m).src HB2.out.1.2.2.2.drew h0⟩) (by rw [HD1.out, hZ2l]; omega) (HS1.out.drop m) ?_; intro X1 hr1 hk1)
          all_goals
            go_wp2_with fail
            go_meet
            exact ⟨HB2.out.1.other hk1.out HB2.out.2.2.2.1 HB2.out.2.2.1 HB2.out.2.1.2.2.1, HB2.out.2.1.next hk1.out hr1.out (length_splice _ _ _ (by rw [HD1.out, hZ2l]; omega)), HB2.out.2.2⟩
        case rest =>
          have HB3 : Hid (Bld w wc b1 g1 m (ks.take m ++ vs.take m) ∧ Bld w wc b2 g2 r (splice Z2 0 (ks.drop m)) ∧ g1 ≠ g2 ∧ b1 ≠ g2 ∧ b2 ≠ g1) := hcut
          clear hcut k0 m0 HB2
          have hd2 : ¬ d2 = 0 := by omega
          have hZ3 : (splice Z2 0 (ks.drop m)).length = 2 * r := by rw [length_splice _ _ _ (by rw [HD1.out, hZ2l]; omega)]; exact hZ2l
          have HE2 : Hid (splice (splice Z2 0 (ks.drop m)) r (vs.drop m) = ks.drop m ++ vs.drop m) := splice_two Z2 _ _ r hZ2l HD1.out HD2.out
          generalize splice Z2 0 (ks.drop m) = Z3 at *
          have k0 : wc.cell? ⟨b0, 1, none⟩ = some (.slice (some ⟨ga2, oa2, none⟩) (m + r) (m + d2)) := (HN.out.below HB3.out.1.2.2.2).c1
          have m0 : wc.cell? ⟨b2, 1, none⟩ = some (.slice (some ⟨g2, r, none⟩) r r) := HB3.out.2.1.1.1.c1
          go_upto_region 6 with (fail)
          go_cut [65] (fun _ wx => Hid (Bld w wx b1 g1 m (ks.take m ++ vs.take m) ∧ Bld w wx b2 g2 r (ks.drop m ++ vs.drop m)))
          case first =>
            go_region_law (refine step_copy_keep rfl (.tmp 58) (.tmp 64) 35 35 rfl 22 Ybaf.underlying35 size22 (some ⟨g2, r, none⟩) (some ⟨ga2, oa2 + m, none⟩) r r r d2 (by simp [Act.eval, Act.put]) (by simp [Act.eval, Act.put]) g2 r Z3 22 (by exact HB3.out.2.1.1.2.1) (vs.drop m) (by rw [HD2.out]; simp) (fun h0 => ⟨rfl, (HR2.out.drop m).src HB3.out.1.2.2.2.drew h0⟩) (by rw [HD2.out, hZ3]; omega) (HS2.out.drop m) ?_; intro X1 hr1 hk1)
            all_goals
              go_wp2_with fail
              go_meet
              rw [HE2.out] at hr1
              exact ⟨HB3.out.1.other hk1.out HB3.out.2.2.2.1 HB3.out.2.2.1 HB3.out.2.1.2.2.1, HB3.out.2.1.next hk1.out hr1.out (by rw [List.length_append, HD1.out, HD2.out, hZ3]; omega)⟩
          case rest =>
            have HB4 : Hid (Bld w wc b1 g1 m (ks.take m ++ vs.take m) ∧ Bld w wc b2 g2 r (ks.drop m ++ vs.drop m)) := hcut
            clear hcut k0 m0 HB3 HE2 hZ3 hZ2l
            clear Z2 Z3
            obtain ⟨kv, hkv⟩ : ∃ kv, ks[m]? = some kv := ⟨ks[m]'(by rw [HLK.out]; omega), List.getElem?_eq_getElem _⟩
            have m0 : wc.cell? ⟨b2, 0, none⟩ = some (.slice (some ⟨g2, 0, none⟩) r r) := HB4.out.2.1.1.c0
            have m1 : wc.cell? ⟨g2, 0, none⟩ = some kv := by
              have h := HB4.out.2.1.2.1
              simp only [World.cell?, h]
              rw [List.getElem?_toArray, List.getElem?_append_left (by rw [HD1.out]; omega), List.getElem?_drop]
              exact hkv
            have hr0 : (0 : Int) < (r : Int) := by omega
            have HKV : Hid (ks[m]? = some kv) := hkv
            clear hkv
            have HB5 : Hid (∀ n, Bld w (wc.drewN n) b1 g1 m (ks.take m ++ vs.take m) ∧ Bld w (wc.drewN n) b2 g2 r (ks.drop m ++ vs.drop m)) := fun n =>
              ⟨HB4.out.1.below ⟨rfl, rfl, rfl, Nat.le_refl _, fun _ _ => rfl⟩, HB4.out.2.below ⟨rfl, rfl, rfl, Nat.le_refl _, fun _ _ => rfl⟩⟩
            clear HB4
            go_upto_region 7 with (fail)
            go_quiet (fail)
            go_wp2
            go_ret3
            exact ⟨b1, g1, b2, g2, kv, rfl, HKV.out, (HB5.out _).1, (HB5.out _).2⟩

end Go.Proofs.YbulkbgzmFmt
