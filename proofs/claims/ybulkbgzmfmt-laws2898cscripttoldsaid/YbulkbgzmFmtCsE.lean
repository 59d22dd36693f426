/-
  CScript: 'delete' at an inner node, the child left underfull (hi).
-/
import Derived.Test.YbulkbgzmFmtCsPtr
namespace Go.Proofs.YbulkbgzmFmt
open Go.RowKit Go.Stop
set_option linter.unusedVariables false

set_option maxRecDepth 100000 in
set_option maxHeartbeats 8000000 in
theorem del_hi {w : World} {Q : Ending → World → Prop} {key : Value} {b0 g0 h0 j r bx bA gA nA nB : Nat} {ka kb ca cb kA vA kB vB : List Value} {kxa : Option Addr} {kxn kxc : Nat} (h : NewInner w b0 g0 h0 (j + r + 2) (ka ++ .slice kxa kxn kxc :: kb) (ca ++ .pointer (some ⟨bA, 0, none⟩) :: .pointer (some ⟨bx, 0, none⟩) :: cb)) (l1 : ka.length = j) (l2 : kb.length = r) (l3 : ca.length = j) (l4 : cb.length = r)
    (s1 : Sls (ka ++ .slice kxa kxn kxc :: kb)) (s2 : Sls (ca ++ .pointer (some ⟨bA, 0, none⟩) :: .pointer (some ⟨bx, 0, none⟩) :: cb)) (hn : j + r + 2 ≤ 16) (hbx : ∃ k v c, NodeAt w bx k v c)
    (hS : Calls Ybaf.prog 34 #[.pointer (some ⟨b0, 0, none⟩), key] w fun e w' => e = .returned (.int .i64 ((j : Int) + 1)) ∧ w' = w)
    (hP : Calls Ybaf.prog 33 #[.pointer (some ⟨bx, 0, none⟩), key] w fun e w' => ∃ b g, e = .returned (.pointer (some ⟨b, 0, none⟩)) ∧ Bld w w' b g nB (kB ++ vB))
    (hL : NewLeaf w bA gA nA (kA ++ vA)) (a1 : kA.length = nA) (a2 : vA.length = nA) (a3 : kB.length = nB) (a4 : vB.length = nB) (c1 : Sls kA) (c2 : Sls vA) (c3 : Sls kB) (c4 : Sls vB) (hu : nB < 16) (hs : nA ≤ 32) (hpos : 0 < nA + nB) (HSL : Hid (∀ v, v ∈ kA ++ kB → ∃ a n c, v = .slice a n c))
    (HQa : Hid (∀ w2 w' bj gj b g h, nA + nB ≤ 32 → Bld w w2 bj gj (nA + nB) ((kA ++ kB) ++ (vA ++ vB)) → BldI w2 w' b g h (j + r + 1) (ka ++ kb) (ca ++ .pointer (some ⟨bj, 0, none⟩) :: cb) → Q (.returned (.pointer (some ⟨b, 0, none⟩))) w'))
    (HQb : Hid (∀ w2 w' bl gl bd gd kv b g h, 32 < nA + nB → Bld w w2 bl gl ((nA + nB) / 2) ((kA ++ kB).take ((nA + nB) / 2) ++ (vA ++ vB).take ((nA + nB) / 2)) → Bld w w2 bd gd (nA + nB - (nA + nB) / 2) ((kA ++ kB).drop ((nA + nB) / 2) ++ (vA ++ vB).drop ((nA + nB) / 2)) → (kA ++ kB)[(nA + nB) / 2]? = some kv →
      BldI w2 w' b g h (j + r + 2) (ka ++ kv :: kb) (ca ++ .pointer (some ⟨bl, 0, none⟩) :: .pointer (some ⟨bd, 0, none⟩) :: cb) → Q (.returned (.pointer (some ⟨b, 0, none⟩))) w')) :
    Calls Ybaf.prog 33 #[.pointer (some ⟨b0, 0, none⟩), key] w fun e w' => Hid (Q e w') := by
  obtain ⟨hrk, hrc⟩ := h.rows
  have n1 := some89
  have hc2 := h.1.c2
  have HN : Hid (NewInner w b0 g0 h0 (j + r + 2) (ka ++ .slice kxa kxn kxc :: kb) (ca ++ .pointer (some ⟨bA, 0, none⟩) :: .pointer (some ⟨bx, 0, none⟩) :: cb)) := h
  have HW0 : Hid (NodeAt w b0 (.slice (some ⟨g0, 0, none⟩) (j + r + 1) (j + r + 1)) (.slice none 0 0) (.slice (some ⟨h0, 0, none⟩) (j + r + 2) (j + r + 2))) := h.1
  have HY0 : Hid (w.cell? ⟨h0, j, none⟩ = some (.pointer (some ⟨bA, 0, none⟩))) := by
    rcases hrc with e | ⟨gg, oo, e, hh⟩
    · simp at e
    · simp only [Option.some.injEq, Addr.mk.injEq, and_true] at e
      obtain ⟨rfl, rfl⟩ := e
      have := hh j (.pointer (some ⟨bA, 0, none⟩)) (by rw [List.getElem?_append_right (by omega), l3, Nat.sub_self]; rfl)
      rwa [Nat.zero_add] at this
  have HY1 : Hid (w.cell? ⟨h0, j + 1, none⟩ = some (.pointer (some ⟨bx, 0, none⟩))) := by
    rcases hrc with e | ⟨gg, oo, e, hh⟩
    · simp at e
    · simp only [Option.some.injEq, Addr.mk.injEq, and_true] at e
      obtain ⟨rfl, rfl⟩ := e
      have := hh (j + 1) (.pointer (some ⟨bx, 0, none⟩)) (by rw [List.getElem?_append_right (by omega), l3, Nat.add_sub_cancel_left]; rfl)
      rwa [Nat.zero_add] at this
  have HKX : Hid (w.cell? ⟨g0, j, none⟩ = some (.slice kxa kxn kxc)) := by
    rcases hrk with e | ⟨gg, oo, e, hh⟩
    · simp at e
    · simp only [Option.some.injEq, Addr.mk.injEq, and_true] at e
      obtain ⟨rfl, rfl⟩ := e
      have := hh j (.slice kxa kxn kxc) (by rw [List.getElem?_append_right (by omega), l1, Nat.sub_self]; rfl)
      rwa [Nat.zero_add] at this
  have RA : Hid (RowAt w (some ⟨g0, 0, none⟩) ka) := hrk.left
  have RB : Hid (RowAt w (some ⟨g0, j + 1, none⟩) kb) := by
    have := RowAt.right (xs := ka ++ [.slice kxa kxn kxc]) (ys := kb) (m := j + 1) (by simpa using hrk) (by simp; omega)
    rwa [Nat.zero_add] at this
  have RC : Hid (RowAt w (some ⟨h0, 0, none⟩) ca) := hrc.left
  have RD : Hid (RowAt w (some ⟨h0, j + 2, none⟩) cb) := by
    have := RowAt.right (xs := ca ++ [.pointer (some ⟨bA, 0, none⟩), .pointer (some ⟨bx, 0, none⟩)]) (ys := cb) (m := j + 2) (by simpa using hrc) (by simp; omega)
    rwa [Nat.zero_add] at this
  have HSk : Hid (Sls (ka ++ .slice kxa kxn kxc :: kb)) := s1
  have HSc : Hid (Sls (ca ++ .pointer (some ⟨bA, 0, none⟩) :: .pointer (some ⟨bx, 0, none⟩) :: cb)) := s2
  have SA : Hid (Sls ka) := s1.left
  have SB : Hid (Sls kb) := Sls.right (xs := ka ++ [.slice kxa kxn kxc]) (by simpa using s1)
  have SC : Hid (Sls ca) := s2.left
  have SD : Hid (Sls cb) := Sls.right (xs := ca ++ [.pointer (some ⟨bA, 0, none⟩), .pointer (some ⟨bx, 0, none⟩)]) (by simpa using s2)
  have LA : Hid (ka.length = j) := l1
  have LB : Hid (kb.length = r) := l2
  have LC : Hid (ca.length = j) := l3
  have LD : Hid (cb.length = r) := l4
  have HL : Hid (NewLeaf w bA gA nA (kA ++ vA)) := hL
  have HLN : Hid ((kA.length = nA ∧ vA.length = nA ∧ kB.length = nB ∧ vB.length = nB) ∧ Sls kA ∧ Sls vA ∧ Sls kB ∧ Sls vB) := ⟨⟨a1, a2, a3, a4⟩, c1, c2, c3, c4⟩
  have HS : Hid (Calls Ybaf.prog 34 #[.pointer (some ⟨b0, 0, none⟩), key] w fun e w' => e = .returned (.int .i64 ((j : Int) + 1)) ∧ w' = w) := hS
  have HP : Hid (Calls Ybaf.prog 33 #[.pointer (some ⟨bx, 0, none⟩), key] w fun e w' => ∃ b g, e = .returned (.pointer (some ⟨b, 0, none⟩)) ∧ Bld w w' b g nB (kB ++ vB)) := hP
  clear h hrk hrc s1 s2 l1 l2 l3 l4 hS hP hL a1 a2 a3 a4 c1 c2 c3 c4
  have hx : w.cell? ⟨h0, j + 1, none⟩ = some (.pointer (some ⟨bx, 0, none⟩)) := HY1.out
  have hjl : (j : Int) < (j : Int) + (r : Int) + 2 := by omega
  have hjl1 : (j : Int) + 1 < (j : Int) + (r : Int) + 2 := by omega
  have hz1 : (0 : Int) ≤ (j : Int) + 1 := by omega
  have ht1 : ((j : Int) + 1).toNat = j + 1 := by omega
  have hw1 : IntKind.i64.wrap ((j : Int) + 1) = (j : Int) + 1 := IntWalk.i64_in _ ⟨by omega, by omega⟩
  go_enter Ybaf.func33, Ybaf.ntmps33
  go_wp2_with fail
  refine HS.out.mono ?_
  rintro e w1 ⟨rfl, hw⟩
  have hw := hw.symm
  subst hw
  clear HS
  go_wp2_with fail
  refine HP.out.mono ?_
  rintro e w1 ⟨bc, gc, rfl, hB⟩
  have HC0 : Hid (Bld w w1 bc gc nB (kB ++ vB)) := hB
  have hne := ptr_new hbx hB
  have HU : Hid (Calls Ybaf.prog 43 #[.pointer (some ⟨bc, 0, none⟩)] w1 fun e w' => e = .returned (.bool true) ∧ w' = w1) := by
    have hl : kB.length = nB := HLN.out.1.2.2.1
    have := under_leaf (hB.1.leafV hl HLN.out.1.2.2.2)
    rw [hl, decide_eq_true hu] at this
    exact this
  clear hB HP hc2 hx hbx
  have hc2 : w1.cell? ⟨b0, 2, none⟩ = some (.slice (some ⟨h0, 0, none⟩) (j + r + 2) (j + r + 2)) := (HW0.out.below HC0.out.2.2.2).c2
  have hx : w1.cell? ⟨h0, j + 1, none⟩ = some (.pointer (some ⟨bx, 0, none⟩)) := k1_of HY1.out HC0.out.2.2.2
  go_wp2_with fail
  refine HU.out.mono ?_
  rintro e w2 ⟨rfl, hw⟩
  have hw := hw.symm
  subst hw
  clear HU
  go_upto_region 19 with (fail)
  go_cut [11] from 129 to 131 (fun v wx => v = .int .i64 (j : Int) ∧ wx = w1)
  case first =>
    skip
    go_wp2_with fail
    go_meet
    exact ⟨by simp, rfl⟩
  case rest =>
    obtain ⟨rfl, hwc⟩ := hcut
    have hwc := hwc.symm
    subst hwc
    clear hx
    have hy0 : w1.cell? ⟨h0, j, none⟩ = some (.pointer (some ⟨bA, 0, none⟩)) := k1_of HY0.out HC0.out.2.2.2
    have hy1 : w1.cell? ⟨h0, j + 1, none⟩ = some (.pointer (some ⟨bx, 0, none⟩)) := k1_of HY1.out HC0.out.2.2.2
    have ne0 := World.new_ne w1 ⟨b0, 2, none⟩ hc2
    have ne1 := World.new_ne w1 ⟨h0, j, none⟩ hy0
    have ne2 := World.new_ne w1 ⟨h0, j + 1, none⟩ hy1
    go_upto_region 20 with (fail)
    go_cut [12] from 132 to 147 (fun v wx => ∃ pb, v = .pointer (some ⟨pb, 0, none⟩) ∧ Hid (wx.heap[pb]? = some (.cells #[.pointer (some ⟨bA, 0, none⟩), .pointer (some ⟨bx, 0, none⟩)] 106 (0, 0)) ∧ Bld w wx bc gc nB (kB ++ vB) ∧ bc ≠ pb ∧ gc ≠ pb ∧ w.heap.size ≤ pb))
    case first =>
      go_region_held3 (fun w' => w'.cell? ⟨b0, 2, none⟩ = some (.slice (some ⟨h0, 0, none⟩) (j + r + 2) (j + r + 2)) ∧ w'.cell? ⟨h0, j, none⟩ = some (.pointer (some ⟨bA, 0, none⟩)) ∧ w'.cell? ⟨h0, j + 1, none⟩ = some (.pointer (some ⟨bx, 0, none⟩))) (go_keep) (fail)
      all_goals
        go_wp2_with fail
        go_meet
        exact ⟨_, rfl, pair_made HC0.out _ _⟩
    case rest =>
      obtain ⟨pb, rfl, HPB⟩ := hcut
      clear hc2 hy0 hy1 ne0 ne1 ne2 hne HC0
      have p0 := (pair_cells HPB.out.1).2.1
      have p1 := (pair_cells HPB.out.1).2.2.2
      have hsub : (j : Int) + 1 - (j : Int) = 1 := by omega
      have HPC : Hid ((wc.setCell ⟨pb, 1, none⟩ (.pointer (some ⟨bc, 0, none⟩))).heap[pb]? = some (.cells #[.pointer (some ⟨bA, 0, none⟩), .pointer (some ⟨bc, 0, none⟩)] 106 (0, 0)) ∧ Bld w (wc.setCell ⟨pb, 1, none⟩ (.pointer (some ⟨bc, 0, none⟩))) bc gc nB (kB ++ vB)) := ⟨pair_set1 HPB.out.1 _, HPB.out.2.1.other (Keeps.cell _) HPB.out.2.2.1 HPB.out.2.2.2.1 HPB.out.2.2.2.2⟩
      go_upto_region 21 with (fail)
      go_cut [152] from 148 to 152 (fun _ wx => Hid (wx.heap[pb]? = some (.cells #[.pointer (some ⟨bA, 0, none⟩), .pointer (some ⟨bc, 0, none⟩)] 106 (0, 0)) ∧ Bld w wx bc gc nB (kB ++ vB)))
      case first =>
        go_wp2_with fail
        go_meet
        exact HPC.out
      case rest =>
        have HPD : Hid (wc.heap[pb]? = some (.cells #[.pointer (some ⟨bA, 0, none⟩), .pointer (some ⟨bc, 0, none⟩)] 106 (0, 0)) ∧ Bld w wc bc gc nB (kB ++ vB)) := hcut
        clear hcut HPC HPB p0 p1 hsub
        have p0 := (pair_cells HPD.out.1).1
        have p1 := (pair_cells HPD.out.1).2.1
        have k0 : wc.cell? ⟨b0, 0, none⟩ = some (.slice (some ⟨g0, 0, none⟩) (j + r + 1) (j + r + 1)) := (HW0.out.below HPD.out.2.2.2.2).c0
        have k1 : wc.cell? ⟨g0, j, none⟩ = some (.slice kxa kxn kxc) := k1_of HKX.out HPD.out.2.2.2.2
        have hjk : (j : Int) < (j : Int) + (r : Int) + 1 := by omega
        have HJn : Hid (Calls Ybaf.prog 44 #[.pointer (some ⟨bA, 0, none⟩), .slice kxa kxn kxc, .pointer (some ⟨bc, 0, none⟩)] wc.drew fun e Y => ∃ b g, e = .returned (.pointer (some ⟨b, 0, none⟩)) ∧ Below wc.drew.heap.size wc.drew Y ∧ Bld w Y b g (nA + nB) ((kA ++ kB) ++ (vA ++ vB))) := by
          have hb : Below w.heap.size w wc.drew := HPD.out.2.2.2.2.drew
          have e1 : NewLeaf wc.drew bc gc nB (kB ++ vB) := HPD.out.2.1
          have e2 : NewLeaf wc.drew bA gA nA (kA ++ vA) := HL.out.below hb
          have hl := HLN.out
          exact (join_leaves e2 e1 hl.1.1 hl.1.2.2.1 hl.1.2.1 hl.1.2.2.2 hl.2.1 hl.2.2.2.1 hl.2.2.1 hl.2.2.2.2 (by omega)).mono fun e Y ⟨b, g, he, hB⟩ => ⟨b, g, he, hB.2.2.2, hB.later hb⟩
        go_upto_region 22 with (fail)
        go_cut [13] from 153 to 164 (fun v wx => ∃ bj gj, v = .pointer (some ⟨bj, 0, none⟩) ∧ Hid (Bld w wx bj gj (nA + nB) ((kA ++ kB) ++ (vA ++ vB))))
        case first =>
          go_region_held3 (fun w' => w'.cell? ⟨pb, 0, none⟩ = some (.pointer (some ⟨bA, 0, none⟩)) ∧ w'.cell? ⟨pb, 1, none⟩ = some (.pointer (some ⟨bc, 0, none⟩)) ∧ w'.cell? ⟨b0, 0, none⟩ = some (.slice (some ⟨g0, 0, none⟩) (j + r + 1) (j + r + 1)) ∧ w'.cell? ⟨g0, j, none⟩ = some (.slice kxa kxn kxc)) (go_keep) ((go_at_call 44; refine HJn.out.mono ?_; rintro e X1 ⟨bj, gj, rfl, hbl, hB⟩; have HBJ : Hid (Bld w X1 bj gj (nA + nB) ((kA ++ kB) ++ (vA ++ vB))) := hB; have q1 := k1_of (W := wc.drew) p0 hbl; have q2 := k1_of (W := wc.drew) p1 hbl; have q3 := k1_of (W := wc.drew) k0 hbl; have q4 := k1_of (W := wc.drew) k1 hbl; clear hbl hB))
          all_goals
            go_wp2_with fail
            go_meet
            exact ⟨_, _, rfl, HBJ.out⟩
        case rest =>
          obtain ⟨bj, gj, rfl, HBJ⟩ := hcut
          clear HPD p0 p1 k0 k1 hjk HJn
          have LK : (kA ++ kB).length = nA + nB := by have := HLN.out.1; simp; omega
          have LV : (vA ++ vB).length = nA + nB := by have := HLN.out.1; simp; omega
          have hLf : LeafV wc (.pointer (some ⟨bj, 0, none⟩)) (kA ++ kB) (vA ++ vB) := HBJ.out.1.leafV LK LV
          have HOv : Hid (Calls Ybaf.prog 40 #[.pointer (some ⟨bj, 0, none⟩)] wc fun e w' => e = .returned (.bool (decide (32 < nA + nB))) ∧ w' = wc) := by
            have := over_leaf hLf
            rw [LK] at this
            exact this
          have HSz : Hid (Calls Ybaf.prog 41 #[.pointer (some ⟨bj, 0, none⟩)] wc fun e w' => e = .returned (.int .i64 ((nA : Int) + (nB : Int))) ∧ w' = wc) := by
            have := size_leaf hLf
            rw [LK] at this
            exact this
          have HSp : Hid (∀ (k : Int) (m : Nat), k = (m : Int) → m < nA + nB → Calls Ybaf.prog 42 #[.pointer (some ⟨bj, 0, none⟩), .int .i64 k] wc fun e w' => ∃ b1 g1 b2 g2 kv, e = .returned (.tuple #[.pointer (some ⟨b1, 0, none⟩), kv, .pointer (some ⟨b2, 0, none⟩)]) ∧ (kA ++ kB)[m]? = some kv ∧
              Bld wc w' b1 g1 m ((kA ++ kB).take m ++ (vA ++ vB).take m) ∧ Bld wc w' b2 g2 (nA + nB - m) ((kA ++ kB).drop m ++ (vA ++ vB).drop m)) := fun k m hk hm => by
            subst hk
            have hs := HLN.out.2
            have := split_leaf (m := m) hLf (fun v hv => (List.mem_append.1 hv).elim (hs.1 v) (hs.2.2.1 v)) (fun v hv => (List.mem_append.1 hv).elim (hs.2.1 v) (hs.2.2.2 v)) (by rw [LK]; omega) (by rw [LK]; exact hm)
            rw [LK] at this
            exact this
          have HSK : Hid (Sls (kA ++ kB)) := fun v hv => (List.mem_append.1 hv).elim (HLN.out.2.1 v) (HLN.out.2.2.2.1 v)
          clear LK LV hLf HL HLN
          go_wp2_with fail
          refine HOv.out.mono ?_
          rintro e w2 ⟨rfl, hw⟩
          have hw := hw.symm
          subst hw
          clear HOv
          by_cases hov : 32 < nA + nB
          · rw [decide_eq_true hov]
            clear HQa
            go_wp2_with fail
            refine HSz.out.mono ?_
            rintro e w2 ⟨rfl, hw⟩
            have hw := hw.symm
            subst hw
            clear HSz
            go_wp2_with fail
            refine (HSp.out _ ((nA + nB) / 2) (by omega) (by omega)).mono ?_
            rintro e w3 ⟨bl, gl, bd, gd, kv, rfl, hkv, hb1, hb2⟩
            have hbel : Below w.heap.size w w3 := HBJ.out.2.2.2.trans (hb1.2.2.2.mono HBJ.out.2.2.2.size)
            obtain ⟨kva, kvn, kvc, rfl⟩ : ∃ a n c, kv = .slice a n c := HSL.out kv (List.mem_of_getElem? hkv)
            have HQ3 : Hid (∀ w' b g h, BldI w3 w' b g h (j + r + 2) (ka ++ .slice kva kvn kvc :: kb) (ca ++ .pointer (some ⟨bl, 0, none⟩) :: .pointer (some ⟨bd, 0, none⟩) :: cb) → Q (.returned (.pointer (some ⟨b, 0, none⟩))) w') := fun w' b g h hB => HQb.out w3 w' bl gl bd gd _ b g h hov (hb1.later HBJ.out.2.2.2) (hb2.later HBJ.out.2.2.2) hkv hB
            have HCl : Hid (Calls Ybaf.prog 39 #[.pointer (some ⟨b0, 0, none⟩)] w3 fun e w' => ∃ b g h, e = .returned (.pointer (some ⟨b, 0, none⟩)) ∧ BldI w3 w' b g h (j + r + 2) (ka ++ .slice kxa kxn kxc :: kb) (ca ++ .pointer (some ⟨bA, 0, none⟩) :: .pointer (some ⟨bx, 0, none⟩) :: cb)) := by
              have hl : (ca ++ .pointer (some ⟨bA, 0, none⟩) :: .pointer (some ⟨bx, 0, none⟩) :: cb).length = j + r + 2 := by have := LC.out; have := LD.out; simp; omega
              have := clone_inner ((HN.out.below hbel).innerV (by omega)) HSk.out HSc.out (by omega)
              rw [hl] at this
              exact this
            clear hkv hb1 hb2 hbel HSp HQb HBJ
            go_wp2_with fail
            refine HCl.out.mono ?_
            rintro e X ⟨b, g, h, rfl, hB⟩
            have HB : Hid (BldI w3 X b g h (j + r + 2) (ka ++ .slice kxa kxn kxc :: kb) (ca ++ .pointer (some ⟨bA, 0, none⟩) :: .pointer (some ⟨bx, 0, none⟩) :: cb)) := hB
            clear hB HCl
            have m0 : X.cell? ⟨b, 0, none⟩ = some (.slice (some ⟨g, 0, none⟩) (j + r + 1) (j + r + 1)) := HB.out.1.1.c0
            have m2 : X.cell? ⟨b, 2, none⟩ = some (.slice (some ⟨h, 0, none⟩) (j + r + 2) (j + r + 2)) := HB.out.1.1.c2
            obtain ⟨⟨o1, c1⟩, f1⟩ := cellThere (j := j) HB.out.1.2.1 (by have := LA.out; have := LB.out; simp; omega)
            obtain ⟨⟨o2, c2⟩, f2⟩ := cellThere (j := j) HB.out.1.2.2.1 (by have := LC.out; have := LD.out; simp; omega)
            obtain ⟨⟨o3, c3⟩, f3⟩ := cellThere (j := j + 1) HB.out.1.2.2.1 (by have := LC.out; have := LD.out; simp; omega)
            have HE : Hid (Q (.returned (.pointer (some ⟨b, 0, none⟩))) (((X.setCell ⟨g, j, none⟩ (.slice kva kvn kvc)).setCell ⟨h, j, none⟩ (.pointer (some ⟨bl, 0, none⟩))).setCell ⟨h, j + 1, none⟩ (.pointer (some ⟨bd, 0, none⟩))).drew) := by
              refine HQ3.out _ b g h ?_
              have := (((HB.out.keyCell (j := j) (.slice kva kvn kvc)).kidCell (j := j) (.pointer (some ⟨bl, 0, none⟩))).kidCell (j := j + 1) (.pointer (some ⟨bd, 0, none⟩))).drew
              rw [set_mid ka kb (.slice kxa kxn kxc) (.slice kva kvn kvc) j LA.out, set_mid ca (.pointer (some ⟨bx, 0, none⟩) :: cb) (.pointer (some ⟨bA, 0, none⟩)) _ j LC.out] at this
              have e := set_mid (ca ++ [.pointer (some ⟨bl, 0, none⟩)]) cb (.pointer (some ⟨bx, 0, none⟩)) (.pointer (some ⟨bd, 0, none⟩)) (j + 1) (by have := LC.out; simp; omega)
              simp only [List.append_assoc, List.singleton_append] at e
              rw [e] at this
              exact this
            have hjk : (j : Int) < (j : Int) + (r : Int) + 1 := by omega
            have hgh : ¬ g = h := HB.out.1.2.2.2.2.2.2.2
            have hhg : ¬ h = g := fun e => hgh e.symm
            have hbg : ¬ b = g := HB.out.1.2.2.2.2.2.1
            have hgb : ¬ g = b := fun e => hbg e.symm
            have hbh : ¬ b = h := HB.out.1.2.2.2.2.2.2.1
            have hhb : ¬ h = b := fun e => hbh e.symm
            clear HB HQ3
            go_upto_region 33 with (fail)
            go_region_held3 (fun w' => w'.cell? ⟨b, 0, none⟩ = some (.slice (some ⟨g, 0, none⟩) (j + r + 1) (j + r + 1)) ∧ w'.cell? ⟨b, 2, none⟩ = some (.slice (some ⟨h, 0, none⟩) (j + r + 2) (j + r + 2))) (go_keep) (fail)
            all_goals
              go_wp2
              go_ret
              exact HE
          · rw [decide_eq_false hov]
            have hov2 : nA + nB ≤ 32 := by omega
            have HQ4 : Hid (∀ w' b g h, BldI wc w' b g h (j + r + 1) (ka ++ kb) (ca ++ .pointer (some ⟨bj, 0, none⟩) :: cb) → Q (.returned (.pointer (some ⟨b, 0, none⟩))) w') := fun w' b g h hB => HQa.out wc w' bj gj b g h hov2 HBJ.out hB
            clear HQa HQb HSz HSp hov2
            generalize hwc0 : wc = wc0 at *
            clear hwc0
            have HC : Hid (∀ (k : Int) (X : World), k = ((j + r + 1 : Nat) : Int) → Calls Ybaf.prog 32 #[.int .i64 k] X fun e Y => ∃ b g h Zk Zc, e = .returned (.pointer (some ⟨b, 0, none⟩)) ∧ BldI X Y b g h (j + r + 1) Zk Zc) := fun k X hk => by
              subst hk
              exact (newInner_any (j + r + 1) (by omega) (by omega) X).mono fun e Y ⟨b, g, h, h1, h2, h3, h4, h5, h6⟩ => ⟨b, g, h, _, _, h1, h2, h3, h4, h5, h6⟩
            have hbel : Below w.heap.size w wc0 := HBJ.out.2.2.2
            have HBel : Hid (Below w.heap.size w wc0) := hbel
            clear hbel
            have k2 : wc0.cell? ⟨b0, 2, none⟩ = some (.slice (some ⟨h0, 0, none⟩) (j + r + 2) (j + r + 2)) := (HW0.out.below HBel.out).c2
            have hwa : IntKind.i64.wrap ((j : Int) + (r : Int) + 1) = (j : Int) + (r : Int) + 1 := IntWalk.i64_in _ ⟨by omega, by omega⟩
            have hsb : (j : Int) + (r : Int) + 2 - 1 = (j : Int) + (r : Int) + 1 := by omega
            go_wp2_with fail
            refine (HC.out _ _ (by omega)).mono ?_
            rintro e X ⟨b, g, h, Zk, Zc, rfl, hB0⟩
            have HB : Hid (BldI wc0 X b g h (j + r + 1) Zk Zc) := hB0
            obtain ⟨K1, ⟨e1, q1⟩, e2⟩ := kd_rows Zk ka kb j r hB0.1.2.2.2.1 LA.out LB.out
            obtain ⟨C1, C2, ⟨f1, p1⟩, ⟨f2, p2⟩, f3⟩ := ki_rows Zc ca cb (.pointer (some ⟨bj, 0, none⟩)) j r hB0.1.2.2.2.2.1 LC.out LD.out
            have E1 : Hid (splice Zk 0 ka = K1) := e1
            have E2 : Hid (splice K1 j kb = ka ++ kb) := e2
            have F1 : Hid (splice Zc 0 ca = C1) := f1
            have F2 : Hid (C1.set j (.pointer (some ⟨bj, 0, none⟩)) = C2) := f2
            have F3 : Hid (splice C2 (j + 1) cb = ca ++ .pointer (some ⟨bj, 0, none⟩) :: cb) := f3
            have Q0 : Hid (Zk.length = j + r) := hB0.1.2.2.2.1
            have Q1 : Hid (K1.length = j + r) := q1
            have P0 : Hid (Zc.length = j + r + 1) := hB0.1.2.2.2.2.1
            have P1 : Hid (C1.length = j + r + 1) := p1
            have P2 : Hid (C2.length = j + r + 1) := p2
            clear hB0 e1 e2 f1 f2 f3 q1 p1 p2 HC k2 HBJ
            have HW1 : Hid (NodeAt wc0 b0 (.slice (some ⟨g0, 0, none⟩) (j + r + 1) (j + r + 1)) (.slice none 0 0) (.slice (some ⟨h0, 0, none⟩) (j + r + 2) (j + r + 2))) := HW0.out.below HBel.out
            have NG : Hid (b ≠ g ∧ b0 ≠ g ∧ b ≠ h ∧ b0 ≠ h) := HB.out.apart HW1.out
            have hir : (j : Int) ≤ (j : Int) + (r : Int) + 1 := by omega
            have k0 : X.cell? ⟨b0, 0, none⟩ = some (.slice (some ⟨g0, 0, none⟩) (j + r + 1) (j + r + 1)) := (HW1.out.below HB.out.2.2.2.2).c0
            have m0 : X.cell? ⟨b, 0, none⟩ = some (.slice (some ⟨g, 0, none⟩) (j + r) (j + r)) := HB.out.1.1.c0
            go_upto_region 25 with (fail)
            go_cut [185] from 175 to 185 (fun _ wx => Hid (BldI wc0 wx b g h (j + r + 1) K1 Zc))
            case first =>
              go_region_held3 (fun w' => w'.cell? ⟨b, 0, none⟩ = some (.slice (some ⟨g, 0, none⟩) (j + r) (j + r)) ∧ w'.cell? ⟨b0, 0, none⟩ = some (.slice (some ⟨g0, 0, none⟩) (j + r + 1) (j + r + 1))) (go_keep) ((refine step_copy_keep rfl (.tmp 178) (.tmp 184) 35 35 rfl 22 Ybaf.underlying35 size22 (some ⟨g, 0, none⟩) (some ⟨g0, 0, none⟩) (j + r) (j + r) j (j + r + 1) (by simp [Act.eval]) (by simp [Act.eval]) g 0 Zk 22 (by exact HB.out.1.2.1) ka (by rw [LA.out]; exact (Nat.min_eq_left (by omega)).symm) (fun h0 => ⟨rfl, RA.out.src (HBel.out.trans (HB.out.2.2.2.2.mono HBel.out.size)).drew h0⟩) (by rw [LA.out, Q0.out]; omega) SA.out ?_; intro X1 hr1 hk1; have qm0 : X1.cell? ⟨b, 0, none⟩ = some (.slice (some ⟨g, 0, none⟩) (j + r) (j + r)) := hk1.out.at NG.out.1 m0; have qk0 : X1.cell? ⟨b0, 0, none⟩ = some (.slice (some ⟨g0, 0, none⟩) (j + r + 1) (j + r + 1)) := hk1.out.at NG.out.2.1 k0))
              all_goals
                go_wp2_with fail
                go_meet
                rw [E1.out] at hr1; exact HB.out.keys hk1.out hr1.out (by rw [Q1.out, Q0.out])
            case rest =>
              have HB2 : Hid (BldI wc0 wc b g h (j + r + 1) K1 Zc) := hcut
              clear hcut m0 k0 HB E1
              have hir1 : (j : Int) + 1 ≤ (j : Int) + (r : Int) + 1 := by omega
              have hir5 : (j : Int) ≤ (j : Int) + (r : Int) := by omega
              have k0 : wc.cell? ⟨b0, 0, none⟩ = some (.slice (some ⟨g0, 0, none⟩) (j + r + 1) (j + r + 1)) := (HW1.out.below HB2.out.2.2.2.2).c0
              have m0 : wc.cell? ⟨b, 0, none⟩ = some (.slice (some ⟨g, 0, none⟩) (j + r) (j + r)) := HB2.out.1.1.c0
              obtain ⟨dp, hdp⟩ : ∃ dp : Option Addr, (if r = 0 then some ⟨g, 0, none⟩ else some ⟨g, j, none⟩) = dp := ⟨_, rfl⟩
              obtain ⟨sp, hsp⟩ : ∃ sp : Option Addr, (if r = 0 then some ⟨g0, 0, none⟩ else some ⟨g0, j + 1, none⟩) = sp := ⟨_, rfl⟩
              go_upto_region 26 with (fail)
              go_cut [199] from 186 to 199 (fun _ wx => Hid (BldI wc0 wx b g h (j + r + 1) (ka ++ kb) Zc))
              case first =>
                go_region_held3 (fun w' => w'.cell? ⟨b, 0, none⟩ = some (.slice (some ⟨g, 0, none⟩) (j + r) (j + r)) ∧ w'.cell? ⟨b0, 0, none⟩ = some (.slice (some ⟨g0, 0, none⟩) (j + r + 1) (j + r + 1))) (go_keep) ((refine step_copy_keep rfl (.tmp 191) (.tmp 198) 35 35 rfl 22 Ybaf.underlying35 size22 dp sp r r r r (by simp [Act.eval]) (by simp [Act.eval]) g j K1 22 (by exact HB2.out.1.2.1) kb (by rw [LB.out]; simp) (fun h0 => ⟨by rw [← hdp, if_neg (by have := LB.out; omega)], by rw [← hsp, if_neg (by have := LB.out; omega)]; exact RB.out.src (HBel.out.trans (HB2.out.2.2.2.2.mono HBel.out.size)).drew h0⟩) (by rw [LB.out, Q1.out]; omega) SB.out ?_; intro X1 hr1 hk1; have qm0 : X1.cell? ⟨b, 0, none⟩ = some (.slice (some ⟨g, 0, none⟩) (j + r) (j + r)) := hk1.out.at NG.out.1 m0; have qk0 : X1.cell? ⟨b0, 0, none⟩ = some (.slice (some ⟨g0, 0, none⟩) (j + r + 1) (j + r + 1)) := hk1.out.at NG.out.2.1 k0))
                all_goals
                  go_wp2_with fail
                  go_meet
                  rw [E2.out] at hr1; exact HB2.out.keys hk1.out hr1.out (by have := LA.out; have := LB.out; have := Q1.out; simp; omega)
              case rest =>
                have HB3 : Hid (BldI wc0 wc b g h (j + r + 1) (ka ++ kb) Zc) := hcut
                clear hcut k0 m0 HB2 E2 hdp hsp dp sp
                have k0 : wc.cell? ⟨b0, 2, none⟩ = some (.slice (some ⟨h0, 0, none⟩) (j + r + 2) (j + r + 2)) := (HW1.out.below HB3.out.2.2.2.2).c2
                have m0 : wc.cell? ⟨b, 2, none⟩ = some (.slice (some ⟨h, 0, none⟩) (j + r + 1) (j + r + 1)) := HB3.out.1.1.c2
                have hir3 : (j : Int) ≤ (j : Int) + (r : Int) + 2 := by omega
                go_upto_region 27 with (fail)
                go_cut [210] from 200 to 210 (fun _ wx => Hid (BldI wc0 wx b g h (j + r + 1) (ka ++ kb) C1))
                case first =>
                  go_region_held3 (fun w' => w'.cell? ⟨b, 2, none⟩ = some (.slice (some ⟨h, 0, none⟩) (j + r + 1) (j + r + 1)) ∧ w'.cell? ⟨b0, 2, none⟩ = some (.slice (some ⟨h0, 0, none⟩) (j + r + 2) (j + r + 2))) (go_keep) ((refine step_copy_keep rfl (.tmp 203) (.tmp 209) 89 89 rfl 57 Ybaf.underlying89 size57 (some ⟨h, 0, none⟩) (some ⟨h0, 0, none⟩) (j + r + 1) (j + r + 1) j (j + r + 2) (by simp [Act.eval]) (by simp [Act.eval]) h 0 Zc 57 (by exact HB3.out.1.2.2.1) ca (by rw [LC.out]; exact (Nat.min_eq_left (by omega)).symm) (fun h0 => ⟨rfl, RC.out.src (HBel.out.trans (HB3.out.2.2.2.2.mono HBel.out.size)).drew h0⟩) (by rw [LC.out, P0.out]; omega) SC.out ?_; intro X1 hr1 hk1; have qm0 : X1.cell? ⟨b, 2, none⟩ = some (.slice (some ⟨h, 0, none⟩) (j + r + 1) (j + r + 1)) := hk1.out.at NG.out.2.2.1 m0; have qk0 : X1.cell? ⟨b0, 2, none⟩ = some (.slice (some ⟨h0, 0, none⟩) (j + r + 2) (j + r + 2)) := hk1.out.at NG.out.2.2.2 k0))
                  all_goals
                    go_wp2_with fail
                    go_meet
                    rw [F1.out] at hr1; exact HB3.out.kids hk1.out hr1.out (by rw [P1.out, P0.out])
                case rest =>
                  have HB4 : Hid (BldI wc0 wc b g h (j + r + 1) (ka ++ kb) C1) := hcut
                  clear hcut k0 m0 HB3 F1
                  have m0 : wc.cell? ⟨b, 2, none⟩ = some (.slice (some ⟨h, 0, none⟩) (j + r + 1) (j + r + 1)) := HB4.out.1.1.c2
                  obtain ⟨⟨o1, c1⟩, f1⟩ := cellThere (j := j) HB4.out.1.2.2.1 (by have := P1.out; omega)
                  have hil : (j : Int) < (j : Int) + (r : Int) + 1 := by omega
                  have HB5x : Hid (BldI wc0 (wc.setCell ⟨h, j, none⟩ (.pointer (some ⟨bj, 0, none⟩))) b g h (j + r + 1) (ka ++ kb) C2) := by
                    have := HB4.out.kidCell (j := j) (.pointer (some ⟨bj, 0, none⟩))
                    rwa [F2.out] at this
                  go_upto_region 28 with (fail)
                  go_cut [217] from 211 to 217 (fun _ wx => Hid (BldI wc0 wx b g h (j + r + 1) (ka ++ kb) C2))
                  case first =>
                    go_wp2_with fail
                    go_meet
                    exact HB5x.out
                  case rest =>
                    have HB5 : Hid (BldI wc0 wc b g h (j + r + 1) (ka ++ kb) C2) := hcut
                    clear hcut m0 c1 f1 HB4 HB5x F2 hil
                    have hw4 : IntKind.i64.wrap ((j : Int) + 2) = (j : Int) + 2 := IntWalk.i64_in _ ⟨by omega, by omega⟩
                    have hz4 : (0 : Int) ≤ (j : Int) + 2 := by omega
                    have ht4 : ((j : Int) + 2).toNat = j + 2 := by omega
                    have hir4 : (j : Int) + 2 ≤ (j : Int) + (r : Int) + 2 := by omega
                    have k0 : wc.cell? ⟨b0, 2, none⟩ = some (.slice (some ⟨h0, 0, none⟩) (j + r + 2) (j + r + 2)) := (HW1.out.below HB5.out.2.2.2.2).c2
                    have m0 : wc.cell? ⟨b, 2, none⟩ = some (.slice (some ⟨h, 0, none⟩) (j + r + 1) (j + r + 1)) := HB5.out.1.1.c2
                    obtain ⟨dp, hdp⟩ : ∃ dp : Option Addr, (if r = 0 then some ⟨h, 0, none⟩ else some ⟨h, j + 1, none⟩) = dp := ⟨_, rfl⟩
                    obtain ⟨sp, hsp⟩ : ∃ sp : Option Addr, (if r = 0 then some ⟨h0, 0, none⟩ else some ⟨h0, j + 2, none⟩) = sp := ⟨_, rfl⟩
                    go_upto_region 29 with (fail)
                    go_cut [232] from 218 to 232 (fun _ wx => Hid (BldI wc0 wx b g h (j + r + 1) (ka ++ kb) (ca ++ .pointer (some ⟨bj, 0, none⟩) :: cb)))
                    case first =>
                      go_region_held3 (fun w' => w'.cell? ⟨b, 2, none⟩ = some (.slice (some ⟨h, 0, none⟩) (j + r + 1) (j + r + 1)) ∧ w'.cell? ⟨b0, 2, none⟩ = some (.slice (some ⟨h0, 0, none⟩) (j + r + 2) (j + r + 2))) (go_keep) ((refine step_copy_keep rfl (.tmp 224) (.tmp 231) 89 89 rfl 57 Ybaf.underlying89 size57 dp sp r r r r (by simp [Act.eval]) (by simp [Act.eval]) h (j + 1) C2 57 (by exact HB5.out.1.2.2.1) cb (by rw [LD.out]; simp) (fun h0 => ⟨by rw [← hdp, if_neg (by have := LD.out; omega)], by rw [← hsp, if_neg (by have := LD.out; omega)]; exact RD.out.src (HBel.out.trans (HB5.out.2.2.2.2.mono HBel.out.size)).drew h0⟩) (by rw [LD.out, P2.out]; omega) SD.out ?_; intro X1 hr1 hk1; have qm0 : X1.cell? ⟨b, 2, none⟩ = some (.slice (some ⟨h, 0, none⟩) (j + r + 1) (j + r + 1)) := hk1.out.at NG.out.2.2.1 m0; have qk0 : X1.cell? ⟨b0, 2, none⟩ = some (.slice (some ⟨h0, 0, none⟩) (j + r + 2) (j + r + 2)) := hk1.out.at NG.out.2.2.2 k0))
                      all_goals
                        go_wp2_with fail
                        go_meet
                        rw [F3.out] at hr1; exact HB5.out.kids hk1.out hr1.out (by have := LC.out; have := LD.out; have := P2.out; simp; omega)
                    case rest =>
                      have HB6 : Hid (BldI wc0 wc b g h (j + r + 1) (ka ++ kb) (ca ++ .pointer (some ⟨bj, 0, none⟩) :: cb)) := hcut
                      clear hcut k0 m0 HB5 F3 hdp hsp dp sp
                      have HE : Hid (Q (.returned (.pointer (some ⟨b, 0, none⟩))) wc) := HQ4.out _ b g h HB6.out
                      clear HB6 HQ4
                      go_wp2
                      go_ret
                      exact HE

end Go.Proofs.YbulkbgzmFmt
