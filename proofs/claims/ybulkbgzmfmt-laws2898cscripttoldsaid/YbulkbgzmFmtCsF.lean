/-
  CScript: 'delete' at an inner node, the child absent or full enough; 'insert', 'remove', 'get'.
-/
import Derived.Test.YbulkbgzmFmtCsPtr
namespace Go.Proofs.YbulkbgzmFmt
open Go.RowKit Go.Stop
set_option linter.unusedVariables false

theorem NewInner.kid {w : World} {b g h n i : Nat} {ks ca cb : List Value} {x : Value} (hN : NewInner w b g h n ks (ca ++ x :: cb)) (hl : ca.length = i) : w.cell? ⟨h, i, none⟩ = some x := by
  rcases hN.rows.2 with e | ⟨gg, oo, e, hh⟩
  · simp at e
  · simp only [Option.some.injEq, Addr.mk.injEq, and_true] at e
    obtain ⟨rfl, rfl⟩ := e
    have := hh i x (by rw [List.getElem?_append_right (by omega), hl, Nat.sub_self]; rfl)
    rwa [Nat.zero_add] at this

set_option maxRecDepth 100000 in
set_option maxHeartbeats 4000000 in
theorem del_same {w : World} {key : Value} {b0 g0 h0 bx i r : Nat} {ks ca cb : List Value} (h : NewInner w b0 g0 h0 (i + r + 1) ks (ca ++ .pointer (some ⟨bx, 0, none⟩) :: cb)) (l3 : ca.length = i) (hn : i + r ≤ 40)
    (hS : Calls Ybaf.prog 34 #[.pointer (some ⟨b0, 0, none⟩), key] w fun e w' => e = .returned (.int .i64 (i : Nat)) ∧ w' = w)
    (hP : Calls Ybaf.prog 33 #[.pointer (some ⟨bx, 0, none⟩), key] w fun e w' => e = .returned (.pointer (some ⟨bx, 0, none⟩)) ∧ w' = w) :
    Calls Ybaf.prog 33 #[.pointer (some ⟨b0, 0, none⟩), key] w fun e w' => e = .returned (.pointer (some ⟨b0, 0, none⟩)) ∧ w' = w := by
  have n1 := some89
  have hc2 := h.1.c2
  have hx := h.kid l3
  have hpp := ptr_same w bx
  have HS : Hid (Calls Ybaf.prog 34 #[.pointer (some ⟨b0, 0, none⟩), key] w fun e w' => e = .returned (.int .i64 (i : Nat)) ∧ w' = w) := hS
  have HP : Hid (Calls Ybaf.prog 33 #[.pointer (some ⟨bx, 0, none⟩), key] w fun e w' => e = .returned (.pointer (some ⟨bx, 0, none⟩)) ∧ w' = w) := hP
  have hil : (i : Int) < (i : Int) + (r : Int) + 1 := by omega
  clear h l3 hS hP
  go_enter Ybaf.func33, Ybaf.ntmps33
  go_wp2_with fail
  refine HS.out.mono ?_
  rintro e w1 ⟨rfl, hw⟩
  have hw := hw.symm
  subst hw
  clear HS
  go_wp2_with fail
  refine HP.out.mono ?_
  rintro e w1 ⟨rfl, hw⟩
  have hw := hw.symm
  subst hw
  clear HP
  go_wp2
  go_ret
  exact ⟨rfl, rfl⟩

set_option maxRecDepth 100000 in
set_option maxHeartbeats 4000000 in
theorem del_keep {w : World} {key : Value} {b0 g0 h0 bx i r n : Nat} {ks ca cb kc vc : List Value} (h : NewInner w b0 g0 h0 (i + r + 1) ks (ca ++ .pointer (some ⟨bx, 0, none⟩) :: cb)) (l3 : ca.length = i) (l4 : cb.length = r) (s1 : Sls ks) (s2 : Sls (ca ++ .pointer (some ⟨bx, 0, none⟩) :: cb)) (hn : i + r ≤ 40)
    (hbx : ∃ k v c, NodeAt w bx k v c) (hu : ¬ n < 16) (hk : kc.length = n) (hv : vc.length = n)
    (hS : Calls Ybaf.prog 34 #[.pointer (some ⟨b0, 0, none⟩), key] w fun e w' => e = .returned (.int .i64 (i : Nat)) ∧ w' = w)
    (hP : Calls Ybaf.prog 33 #[.pointer (some ⟨bx, 0, none⟩), key] w fun e w' => ∃ b g, e = .returned (.pointer (some ⟨b, 0, none⟩)) ∧ Bld w w' b g n (kc ++ vc)) :
    Calls Ybaf.prog 33 #[.pointer (some ⟨b0, 0, none⟩), key] w fun e w' => ∃ b g h bc gc w1, e = .returned (.pointer (some ⟨b, 0, none⟩)) ∧ Hid (Bld w w1 bc gc n (kc ++ vc) ∧ BldI w1 w' b g h (i + r + 1) ks (ca ++ .pointer (some ⟨bc, 0, none⟩) :: cb)) := by
  have n1 := some89
  have hc2 := h.1.c2
  have HN : Hid (NewInner w b0 g0 h0 (i + r + 1) ks (ca ++ .pointer (some ⟨bx, 0, none⟩) :: cb)) := h
  have HX : Hid (w.cell? ⟨h0, i, none⟩ = some (.pointer (some ⟨bx, 0, none⟩))) := h.kid l3
  have hx := HX.out
  have HSk : Hid (Sls ks) := s1
  have HSc : Hid (Sls (ca ++ .pointer (some ⟨bx, 0, none⟩) :: cb)) := s2
  have LC : Hid (ca.length = i) := l3
  have LD : Hid (cb.length = r) := l4
  have HKV : Hid (kc.length = n ∧ vc.length = n) := ⟨hk, hv⟩
  have HS : Hid (Calls Ybaf.prog 34 #[.pointer (some ⟨b0, 0, none⟩), key] w fun e w' => e = .returned (.int .i64 (i : Nat)) ∧ w' = w) := hS
  have HP : Hid (Calls Ybaf.prog 33 #[.pointer (some ⟨bx, 0, none⟩), key] w fun e w' => ∃ b g, e = .returned (.pointer (some ⟨b, 0, none⟩)) ∧ Bld w w' b g n (kc ++ vc)) := hP
  have hil : (i : Int) < (i : Int) + (r : Int) + 1 := by omega
  clear h l3 l4 s1 s2 hS hP hk hv
  go_enter Ybaf.func33, Ybaf.ntmps33
  go_wp2_with fail
  refine HS.out.mono ?_
  rintro e w1 ⟨rfl, hw⟩
  have hw := hw.symm
  subst hw
  clear HS
  go_wp2_with fail
  refine HP.out.mono ?_
  rintro e w1 ⟨bc, gc, rfl, hB⟩
  have HC0 : Hid (Bld w w1 bc gc n (kc ++ vc)) := hB
  have hne := ptr_new hbx hB
  have HU : Hid (Calls Ybaf.prog 43 #[.pointer (some ⟨bc, 0, none⟩)] w1 fun e w' => e = .returned (.bool false) ∧ w' = w1) := by
    have hl : kc.length = n := HKV.out.1
    have := under_leaf (hB.1.leafV hl HKV.out.2)
    rw [hl, decide_eq_false hu] at this
    exact this
  have HCl : Hid (Calls Ybaf.prog 39 #[.pointer (some ⟨b0, 0, none⟩)] w1 fun e w' => ∃ b g h, e = .returned (.pointer (some ⟨b, 0, none⟩)) ∧ BldI w1 w' b g h (i + r + 1) ks (ca ++ .pointer (some ⟨bx, 0, none⟩) :: cb)) := by
    have hl : (ca ++ Value.pointer (some ⟨bx, 0, none⟩) :: cb).length = i + r + 1 := by have := LC.out; have := LD.out; simp; omega
    have := clone_inner ((HN.out.below hB.2.2.2).innerV (by omega)) HSk.out HSc.out (by omega)
    rw [hl] at this
    exact this
  clear hB HP hc2 hx hbx hu
  have hc2 : w1.cell? ⟨b0, 2, none⟩ = some (.slice (some ⟨h0, 0, none⟩) (i + r + 1) (i + r + 1)) := (HN.out.1.below HC0.out.2.2.2).c2
  have hx : w1.cell? ⟨h0, i, none⟩ = some (.pointer (some ⟨bx, 0, none⟩)) := k1_of HX.out HC0.out.2.2.2
  go_wp2_with fail
  refine HU.out.mono ?_
  rintro e w2 ⟨rfl, hw⟩
  have hw := hw.symm
  subst hw
  clear HU hne
  go_wp2_with fail
  refine HCl.out.mono ?_
  rintro e X ⟨b, g, h, rfl, hB⟩
  have m2 : X.cell? ⟨b, 2, none⟩ = some (.slice (some ⟨h, 0, none⟩) (i + r + 1) (i + r + 1)) := hB.1.1.c2
  obtain ⟨⟨o, ho⟩, hf⟩ := cellThere (j := i) hB.1.2.2.1 (by have := LC.out; have := LD.out; simp; omega)
  have HE : Hid (Bld w w1 bc gc n (kc ++ vc) ∧ BldI w1 (X.setCell ⟨h, i, none⟩ (.pointer (some ⟨bc, 0, none⟩))) b g h (i + r + 1) ks (ca ++ .pointer (some ⟨bc, 0, none⟩) :: cb)) := by
    refine ⟨HC0.out, ?_⟩
    have := hB.kidCell (j := i) (.pointer (some ⟨bc, 0, none⟩))
    rwa [set_mid ca cb _ _ i LC.out] at this
  clear hB HCl
  go_wp2
  go_ret
  exact ⟨b, g, h, bc, gc, w1, rfl, HE⟩

set_option maxRecDepth 100000 in
set_option maxHeartbeats 4000000 in
theorem insert_nil {w : World} {ak av : Option Addr} {nk ck nv cv : Nat} :
    Calls Ybaf.prog 19 #[.pointer none, .slice ak nk ck, .slice av nv cv] w fun e w' => ∃ b g, e = .returned (.pointer (some ⟨b, 0, none⟩)) ∧ Bld w w' b g 1 ([.slice ak nk ck] ++ [.slice av nv cv]) := by
  have HC : Hid (∀ (X : World), Calls Ybaf.prog 30 #[.int .i64 1] X fun e Y => ∃ b g, e = .returned (.pointer (some ⟨b, 0, none⟩)) ∧ Mk X Y b g 1) := fun X =>
    (newLeaf_any 1 (by omega) X).mono fun e Y ⟨b, g, h1, h2, h3, h4, h5⟩ => ⟨b, g, h1, h2, h3, h4, h5⟩
  go_enter Ybaf.func19, Ybaf.ntmps19
  go_wp2_with fail
  refine (HC.out _).mono ?_
  rintro e X ⟨b, g, rfl, hmk⟩
  have m0 : X.cell? ⟨b, 0, none⟩ = some (.slice (some ⟨g, 0, none⟩) 1 1) := hmk.1.1.c0
  have m1 : X.cell? ⟨b, 1, none⟩ = some (.slice (some ⟨g, 1, none⟩) 1 1) := hmk.1.1.c1
  have hB : Bld w X b g 1 [.slice none 0 0, .slice none 0 0] := hmk
  obtain ⟨⟨o1, c1⟩, f1⟩ := cellThere (j := 0) hB.1.2.1 (by simp)
  obtain ⟨⟨o2, c2⟩, f2⟩ := cellThere (j := 1) hB.1.2.1 (by simp)
  have HE : Hid (Bld w ((X.setCell ⟨g, 0, none⟩ (.slice ak nk ck)).setCell ⟨g, 1, none⟩ (.slice av nv cv)).drew b g 1 ([.slice ak nk ck] ++ [.slice av nv cv])) := by
    have := ((hB.cell (j := 0) (.slice ak nk ck)).cell (j := 1) (.slice av nv cv)).drew
    exact this
  clear hB hmk HC
  go_upto_region 3 with (fail)
  go_region
  all_goals
    go_wp2
    go_ret
    exact ⟨b, g, rfl, HE.out⟩

set_option maxRecDepth 100000 in
set_option maxHeartbeats 4000000 in
theorem insert_put {w : World} {Q P : Ending → World → Prop} {key val : Value} {b0 : Nat}
    (hP : Calls Ybaf.prog 31 #[.pointer (some ⟨b0, 0, none⟩), key, val, .bool true] w P)
    (HQ : Hid (∀ e w1, P e w1 → 
      (∃ c, e = .returned (.tuple #[.pointer c, .slice none 0 0, .pointer none]) ∧ Q (.returned (.pointer c)) w1) ∨
      (∃ c sa sn sc d, e = .returned (.tuple #[.pointer c, .slice sa sn sc, .pointer (some d)]) ∧ ∀ w' b g h, BldI w1 w' b g h 2 [.slice sa sn sc] [.pointer c, .pointer (some d)] → Q (.returned (.pointer (some ⟨b, 0, none⟩))) w'))) :
    Calls Ybaf.prog 19 #[.pointer (some ⟨b0, 0, none⟩), key, val] w fun e w' => Hid (Q e w') := by
  have HP : Hid (Calls Ybaf.prog 31 #[.pointer (some ⟨b0, 0, none⟩), key, val, .bool true] w P) := hP
  have HC : Hid (∀ (X : World), Calls Ybaf.prog 32 #[.int .i64 2] X fun e Y => ∃ b g h, e = .returned (.pointer (some ⟨b, 0, none⟩)) ∧ BldI X Y b g h 2 [.slice none 0 0] [.pointer none, .pointer none]) := fun X =>
    (newInner_any 2 (by omega) (by omega) X).mono fun e Y ⟨b, g, h, h1, h2, h3, h4, h5, h6⟩ => ⟨b, g, h, h1, h2, h3, h4, h5, h6⟩
  clear hP
  go_enter Ybaf.func19, Ybaf.ntmps19
  go_wp2_with fail
  refine HP.out.mono ?_
  rintro e w1 he
  rcases HQ.out e w1 he with ⟨c, rfl, hq⟩ | ⟨c, sa, sn, sc, d, rfl, hq⟩
  · have HE : Hid (Q (.returned (.pointer c)) w1) := hq
    clear he hq HP HQ HC
    go_wp2
    go_ret
    exact HE
  · have HE : Hid (∀ w' b g h, BldI w1 w' b g h 2 [.slice sa sn sc] [.pointer c, .pointer (some d)] → Q (.returned (.pointer (some ⟨b, 0, none⟩))) w') := hq
    clear he hq HP HQ
    go_wp2_with fail
    refine (HC.out _).mono ?_
    rintro e X ⟨b, g, h, rfl, hB⟩
    have m0 : X.cell? ⟨b, 0, none⟩ = some (.slice (some ⟨g, 0, none⟩) 1 1) := hB.1.1.c0
    have m2 : X.cell? ⟨b, 2, none⟩ = some (.slice (some ⟨h, 0, none⟩) 2 2) := hB.1.1.c2
    obtain ⟨⟨o1, c1⟩, f1⟩ := cellThere (j := 0) hB.1.2.1 (by simp)
    obtain ⟨⟨o2, c2⟩, f2⟩ := cellThere (j := 0) hB.1.2.2.1 (by simp)
    obtain ⟨⟨o3, c3⟩, f3⟩ := cellThere (j := 1) hB.1.2.2.1 (by simp)
    have HE2 : Hid (Q (.returned (.pointer (some ⟨b, 0, none⟩))) (((X.setCell ⟨g, 0, none⟩ (.slice sa sn sc)).setCell ⟨h, 0, none⟩ (.pointer c)).setCell ⟨h, 1, none⟩ (.pointer (some d))).drew) := by
      refine HE.out _ b g h ?_
      exact (((hB.keyCell (j := 0) (.slice sa sn sc)).kidCell (j := 0) (.pointer c)).kidCell (j := 1) (.pointer (some d))).drew
    have hgh : ¬ g = h := hB.1.2.2.2.2.2.2.2
    have hhg : ¬ h = g := fun e => hgh e.symm
    have hbg : ¬ b = g := hB.1.2.2.2.2.2.1
    have hgb : ¬ g = b := fun e => hbg e.symm
    have hbh : ¬ b = h := hB.1.2.2.2.2.2.2.1
    have hhb : ¬ h = b := fun e => hbh e.symm
    clear hB HC HE
    go_upto_region 9 with (fail)
    go_region_held3 (fun w' => w'.cell? ⟨b, 0, none⟩ = some (.slice (some ⟨g, 0, none⟩) 1 1) ∧ w'.cell? ⟨b, 2, none⟩ = some (.slice (some ⟨h, 0, none⟩) 2 2)) (go_keep) (fail)
    all_goals
      go_wp2
      go_ret
      exact HE2

set_option maxRecDepth 100000 in
set_option maxHeartbeats 4000000 in
theorem remove_nil {w : World} {key : Value} : Calls Ybaf.prog 20 #[.pointer none, key] w fun e w' => e = .returned (.pointer none) ∧ w' = w := by
  go_enter Ybaf.func20, Ybaf.ntmps20
  go_wp2
  go_ret
  exact ⟨rfl, rfl⟩

set_option maxRecDepth 100000 in
set_option maxHeartbeats 4000000 in
theorem remove_any {w : World} {Q P : Ending → World → Prop} {key : Value} {b0 : Nat}
    (hP : Calls Ybaf.prog 33 #[.pointer (some ⟨b0, 0, none⟩), key] w P) (hN : ∃ k v c, NodeAt w b0 k v c)
    (HQ : Hid (∀ e w1, P e w1 → 
      (e = .returned (.pointer (some ⟨b0, 0, none⟩)) ∧ Q (.returned (.pointer (some ⟨b0, 0, none⟩))) w1) ∨
      (∃ b g n cur, e = .returned (.pointer (some ⟨b, 0, none⟩)) ∧ Bld w w1 b g n cur ∧ n ≤ 64 ∧ (n = 0 → Q (.returned (.pointer none)) w1) ∧ (0 < n → Q (.returned (.pointer (some ⟨b, 0, none⟩))) w1)) ∨
      (∃ b g h w0 n ks x cs, e = .returned (.pointer (some ⟨b, 0, none⟩)) ∧ BldI w0 w1 b g h n ks (.pointer x :: cs) ∧ w.heap.size ≤ w0.heap.size ∧ Below w.heap.size w w1 ∧ n ≤ 64 ∧ (n = 1 → Q (.returned (.pointer x)) w1) ∧ (n ≠ 1 → Q (.returned (.pointer (some ⟨b, 0, none⟩))) w1)))) :
    Calls Ybaf.prog 20 #[.pointer (some ⟨b0, 0, none⟩), key] w fun e w' => Hid (Q e w') := by
  have HP : Hid (Calls Ybaf.prog 33 #[.pointer (some ⟨b0, 0, none⟩), key] w P) := hP
  have n1 := nil89
  have n2 := some89
  clear hP
  go_enter Ybaf.func20, Ybaf.ntmps20
  go_wp2_with fail
  refine HP.out.mono ?_
  rintro e w1 he
  rcases HQ.out e w1 he with ⟨rfl, hq⟩ | ⟨b, g, n, cur, rfl, hB, hn, hq0, hq1⟩ | ⟨b, g, h, w0, n, ks, x, cs, rfl, hB, hsz, hbel, hn, hq0, hq1⟩
  · have HE : Hid (Q (.returned (.pointer (some ⟨b0, 0, none⟩))) w1) := hq
    have hpp := ptr_same w1 b0
    clear he hq HP HQ hN
    go_wp2
    go_ret
    exact HE
  · have hne := ptr_new hN hB
    have m0 := hB.1.1.c0
    have m2 := hB.1.1.c2
    have H0 : Hid (n = 0 → Q (.returned (.pointer none)) w1) := hq0
    have H1 : Hid (0 < n → Q (.returned (.pointer (some ⟨b, 0, none⟩))) w1) := hq1
    clear he HP HQ hN hB hq0 hq1
    by_cases h0 : n = 0
    · have HE : Hid (Q (.returned (.pointer none)) w1) := H0.out h0
      clear H0 H1
      subst h0
      go_wp2
      go_ret
      exact HE
    · have HE : Hid (Q (.returned (.pointer (some ⟨b, 0, none⟩))) w1) := H1.out (by omega)
      clear H0 H1
      have hnz : ¬ (n : Int) = 0 := by omega
      go_wp2
      go_ret
      exact HE
  · have hne : (binOp .eql 57 (.pointer (some ⟨b, 0, none⟩)) (.pointer (some ⟨b0, 0, none⟩))).run Ybaf.prog w1 = .ok (.bool false) w1 := by
      obtain ⟨k, v, c, hx⟩ := hN
      have l1 := lt_of_block hx
      exact ptr_other hB.1.1 (hx.below hbel) (by have := hB.2.1; omega)
    have m0 := hB.1.1.c0
    have m2 := hB.1.1.c2
    have hx0 : w1.cell? ⟨h, 0, none⟩ = some (.pointer x) := NewInner.kid (ca := []) hB.1 rfl
    have H0 : Hid (n = 1 → Q (.returned (.pointer x)) w1) := hq0
    have H1 : Hid (n ≠ 1 → Q (.returned (.pointer (some ⟨b, 0, none⟩))) w1) := hq1
    clear he HP HQ hN hB hq0 hq1 hbel hsz
    by_cases h0 : n = 1
    · have HE : Hid (Q (.returned (.pointer x)) w1) := H0.out h0
      clear H0 H1
      subst h0
      go_wp2
      go_ret
      exact HE
    · have HE : Hid (Q (.returned (.pointer (some ⟨b, 0, none⟩))) w1) := H1.out h0
      clear H0 H1
      have hnz : ¬ (n : Int) = 1 := by omega
      go_wp2
      go_ret
      exact HE

end Go.Proofs.YbulkbgzmFmt
