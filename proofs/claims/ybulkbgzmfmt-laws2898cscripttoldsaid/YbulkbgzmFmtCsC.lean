/-
  CScript: 'put' at an inner node.
-/
import Derived.Test.YbulkbgzmFmtCsB
namespace Go.Proofs.YbulkbgzmFmt
open Go.RowKit Go.Stop
set_option linter.unusedVariables false

theorem NewInner.rows {w : World} {b g h n : Nat} {ks cs : List Value} (hN : NewInner w b g h n ks cs) : RowAt w (some ⟨g, 0, none⟩) ks ∧ RowAt w (some ⟨h, 0, none⟩) cs := by
  obtain ⟨h1, h2, h3, _⟩ := hN
  refine ⟨.inr ⟨g, 0, rfl, fun j v hj => ?_⟩, .inr ⟨h, 0, rfl, fun j v hj => ?_⟩⟩
  · simp only [World.cell?, h2, Nat.zero_add]
    rw [List.getElem?_toArray]; exact hj
  · simp only [World.cell?, h3, Nat.zero_add]
    rw [List.getElem?_toArray]; exact hj
theorem NewInner.below {w w' : World} {b g h n : Nat} {ks cs : List Value} (hN : NewInner w b g h n ks cs) (hb : Below w.heap.size w w') : NewInner w' b g h n ks cs := by
  obtain ⟨h1, h2, h3, r⟩ := hN
  exact ⟨h1.below hb, (hb.block g (lt_of_block h2)).trans h2, (hb.block h (lt_of_block h3)).trans h3, r⟩
theorem BldI.keyCell {w X : World} {b g h n j : Nat} {ck ch : List Value} (H : BldI w X b g h n ck ch) (x : Value) : BldI w (X.setCell ⟨g, j, none⟩ x) b g h n (ck.set j x) ch := by
  refine H.keys (Keeps.cell _) ?_ (by simp)
  have e := heap_setCell_same X g j ck.toArray 22 x H.1.2.1
  rw [e, List.setIfInBounds_toArray]
theorem BldI.kidCell {w X : World} {b g h n j : Nat} {ck ch : List Value} (H : BldI w X b g h n ck ch) (x : Value) : BldI w (X.setCell ⟨h, j, none⟩ x) b g h n ck (ch.set j x) := by
  refine H.kids (Keeps.cell _) ?_ (by simp)
  have e := heap_setCell_same X h j ch.toArray 57 x H.1.2.2.1
  rw [e, List.setIfInBounds_toArray]
theorem BldI.drew {w X : World} {b g h n : Nat} {ck ch : List Value} (H : BldI w X b g h n ck ch) : BldI w X.drew b g h n ck ch := by
  obtain ⟨h1, h2, h3, h4, h5⟩ := H
  exact ⟨h1, h2, h3, h4, h5.drew⟩
theorem BldI.apart {w X : World} {b g h n b0 : Nat} {ck ch : List Value} {k v c : Value} (H : BldI w X b g h n ck ch) (hN : NodeAt w b0 k v c) : b ≠ g ∧ b0 ≠ g ∧ b ≠ h ∧ b0 ≠ h := by
  have h1 := lt_of_block hN
  have h2 := H.2.2.1
  have h3 := H.2.2.2.1
  exact ⟨H.1.2.2.2.2.2.1, by omega, H.1.2.2.2.2.2.2.1, by omega⟩
theorem cellThere {w : World} {g j : Nat} {cur : List Value} {t : TypeId} (h : w.heap[g]? = some (.cells cur.toArray t (0, 0))) (hj : j < cur.length) : (∃ o, w.cell? ⟨g, j, none⟩ = some o) ∧ w.frozen? ⟨g, j, none⟩ = false :=
  ⟨⟨cur[j]'hj, by simp only [World.cell?, h]; rw [List.getElem?_toArray, List.getElem?_eq_getElem hj]; rfl⟩, by simp [World.frozen?, h]⟩

theorem ki_rows (Z ka kb : List Value) (s : Value) (i r : Nat) (hZ : Z.length = i + r + 1) (l1 : ka.length = i) (l2 : kb.length = r) :
    ∃ R1 R2, (splice Z 0 ka = R1 ∧ R1.length = i + r + 1) ∧ (R1.set i s = R2 ∧ R2.length = i + r + 1) ∧ splice R2 (i + 1) kb = ka ++ s :: kb := by
  obtain ⟨za, Z1, rfl, h1⟩ : ∃ a b, Z = a ++ b ∧ a.length = i := ⟨Z.take i, Z.drop i, by simp, by simp; omega⟩
  simp only [List.length_append] at hZ
  obtain ⟨z, zb, rfl⟩ : ∃ a b, Z1 = a :: b := by
    cases Z1 with
    | nil => simp at hZ; omega
    | cons a b => exact ⟨a, b, rfl⟩
  simp only [List.length_cons] at hZ
  refine ⟨ka ++ z :: zb, ka ++ s :: zb, ⟨?_, ?_⟩, ⟨?_, ?_⟩, ?_⟩
  · simpa using splice_mid [] za (z :: zb) ka 0 rfl (by omega)
  · simp; omega
  · exact set_mid ka zb z s i l1
  · simp; omega
  · simpa using splice_mid (ka ++ [s]) zb [] kb (i + 1) (by simp; omega) (by omega)
theorem ci_rows (Z ca cb : List Value) (c d : Value) (i r : Nat) (hZ : Z.length = i + r + 2) (l1 : ca.length = i) (l2 : cb.length = r) :
    ∃ R1 R2, (splice Z 0 ca = R1 ∧ R1.length = i + r + 2) ∧ ((R1.set i c).set (i + 1) d = R2 ∧ R2.length = i + r + 2) ∧ splice R2 (i + 2) cb = ca ++ c :: d :: cb := by
  obtain ⟨za, Z1, rfl, h1⟩ : ∃ a b, Z = a ++ b ∧ a.length = i := ⟨Z.take i, Z.drop i, by simp, by simp; omega⟩
  simp only [List.length_append] at hZ
  obtain ⟨z, z', zb, rfl⟩ : ∃ a b c, Z1 = a :: b :: c := by
    cases Z1 with
    | nil => simp at hZ; omega
    | cons a b =>
      cases b with
      | nil => simp at hZ; omega
      | cons b c => exact ⟨a, b, c, rfl⟩
  simp only [List.length_cons] at hZ
  refine ⟨ca ++ z :: z' :: zb, ca ++ c :: d :: zb, ⟨?_, ?_⟩, ⟨?_, ?_⟩, ?_⟩
  · simpa using splice_mid [] za (z :: z' :: zb) ca 0 rfl (by omega)
  · simp; omega
  · rw [set_mid ca (z' :: zb) z c i l1]
    simpa using set_mid (ca ++ [c]) zb z' d (i + 1) (by simp; omega)
  · simp; omega
  · simpa using splice_mid (ca ++ [c, d]) zb [] cb (i + 2) (by simp; omega) (by omega)

set_option maxRecDepth 100000 in
set_option maxHeartbeats 4000000 in
theorem put_inner {w : World} {Q P : Ending → World → Prop} {key val : Value} {b0 g0 h0 i r : Nat} {ka kb ca cb : List Value} {x : Option Addr} {rv : Bool} (h : NewInner w b0 g0 h0 (i + r + 1) (ka ++ kb) (ca ++ .pointer x :: cb)) (l1 : ka.length = i) (l2 : kb.length = r) (l3 : ca.length = i) (l4 : cb.length = r)
    (s1 : Sls (ka ++ kb)) (s2 : Sls (ca ++ .pointer x :: cb)) (hn : i + r + 2 ≤ 16)
    (hS : Calls Ybaf.prog 34 #[.pointer (some ⟨b0, 0, none⟩), key] w fun e w' => e = .returned (.int .i64 (i : Nat)) ∧ w' = w)
    (hP : Calls Ybaf.prog 31 #[.pointer x, key, val, .bool (rv && decide (r = 0))] w P)
    (HQ : Hid (∀ e w1, P e w1 → Below w.heap.size w w1 ∧ (
      (∃ c, e = .returned (.tuple #[.pointer c, .slice none 0 0, .pointer none]) ∧ ∀ w' b g h, BldI w1 w' b g h (i + r + 1) (ka ++ kb) (ca ++ .pointer c :: cb) → Q (.returned (.tuple #[.pointer (some ⟨b, 0, none⟩), .slice none 0 0, .pointer none])) w') ∨
      (∃ c sa sn sc d, e = .returned (.tuple #[.pointer c, .slice sa sn sc, .pointer (some d)]) ∧ ∀ w' b g h, BldI w1 w' b g h (i + r + 2) (ka ++ .slice sa sn sc :: kb) (ca ++ .pointer c :: .pointer (some d) :: cb) → Q (.returned (.tuple #[.pointer (some ⟨b, 0, none⟩), .slice none 0 0, .pointer none])) w')))) :
    Calls Ybaf.prog 31 #[.pointer (some ⟨b0, 0, none⟩), key, val, .bool rv] w Q := by
  obtain ⟨hrk, hrc⟩ := h.rows
  have n1 := some89
  have hc0 := h.1.c0
  have hc2 := h.1.c2
  have HN : Hid (NewInner w b0 g0 h0 (i + r + 1) (ka ++ kb) (ca ++ .pointer x :: cb)) := h
  have HW0 : Hid (NodeAt w b0 (.slice (some ⟨g0, 0, none⟩) (i + r) (i + r)) (.slice none 0 0) (.slice (some ⟨h0, 0, none⟩) (i + r + 1) (i + r + 1))) := h.1
  have hx : w.cell? ⟨h0, i, none⟩ = some (.pointer x) := by
    rcases hrc with e | ⟨gg, oo, e, hh⟩
    · simp at e
    · simp only [Option.some.injEq, Addr.mk.injEq, and_true] at e
      obtain ⟨rfl, rfl⟩ := e
      have := hh i (.pointer x) (by rw [List.getElem?_append_right (by omega), l3, Nat.sub_self]; rfl)
      rwa [Nat.zero_add] at this
  have RA : Hid (RowAt w (some ⟨g0, 0, none⟩) ka) := hrk.left
  have RB : Hid (RowAt w (some ⟨g0, i, none⟩) kb) := by have := hrk.right l1; rwa [Nat.zero_add] at this
  have RC : Hid (RowAt w (some ⟨h0, 0, none⟩) ca) := hrc.left
  have RD : Hid (RowAt w (some ⟨h0, i + 1, none⟩) cb) := by
    have := RowAt.right (xs := ca ++ [.pointer x]) (ys := cb) (m := i + 1) (by simpa using hrc) (by simp; omega)
    rwa [Nat.zero_add] at this
  have HSk : Hid (Sls (ka ++ kb)) := s1
  have HSc : Hid (Sls (ca ++ .pointer x :: cb)) := s2
  have SA : Hid (Sls ka) := s1.left
  have SB : Hid (Sls kb) := s1.right
  have SC : Hid (Sls ca) := s2.left
  have SD : Hid (Sls cb) := Sls.right (xs := ca ++ [.pointer x]) (by simpa using s2)
  have LA : Hid (ka.length = i) := l1
  have LB : Hid (kb.length = r) := l2
  have LC : Hid (ca.length = i) := l3
  have LD : Hid (cb.length = r) := l4
  have HS : Hid (Calls Ybaf.prog 34 #[.pointer (some ⟨b0, 0, none⟩), key] w fun e w' => e = .returned (.int .i64 (i : Nat)) ∧ w' = w) := hS
  have HP : Hid (∀ rb, rb = (rv && decide (r = 0)) → Calls Ybaf.prog 31 #[.pointer x, key, val, .bool rb] w P) := fun rb hrb => by rw [hrb]; exact hP
  clear h hrk hrc s1 s2 l1 l2 l3 l4 hS hP
  have hw1 : IntKind.i64.wrap ((i : Int) + (r : Int)) = (i : Int) + (r : Int) := IntWalk.i64_in _ ⟨by omega, by omega⟩
  obtain ⟨ap, hap⟩ : ∃ ap, decide (r = 0) = ap := ⟨_, rfl⟩
  have HAP : Hid (decide (r = 0) = ap) := hap
  go_enter Ybaf.func31, Ybaf.ntmps31
  go_wp2_with fail
  refine HS.out.mono ?_
  rintro e w1 ⟨rfl, hw⟩
  have hw := hw.symm
  subst hw
  clear HS
  go_upto_region 17 with (fail)
  go_cut [16] from 127 to 134 (fun v wx => v = .bool ap ∧ wx = w)
  case first =>
    go_wp2_with fail
    go_meet
    exact ⟨by rw [← hap, Value.bool.injEq, Bool.eq_iff_iff, beq_iff_eq, decide_eq_true_eq]; omega, rfl⟩
  case rest =>
    obtain ⟨rfl, hwc⟩ := hcut
    have hwc := hwc.symm
    subst hwc
    clear hap
    have hil : (i : Int) < (i : Int) + (r : Int) + 1 := by omega
    go_upto_region 18 with (fail)
    go_cut [17, 18, 19] from 135 to 152 (fun u v z wx => Hid (∃ e, P e wx ∧ e = .returned (.tuple #[u, v, z])))
    case first =>
      cases rv with
      | false =>
        go_wp2_with fail
        refine (HP.out _ rfl).mono ?_
        rintro e w1 he
        obtain ⟨hb, ⟨c, rfl, -⟩ | ⟨c, sa, sn, sc, d, rfl, -⟩⟩ := HQ.out e w1 he
        · have HE : Hid (P _ w1) := he
          clear he hb HP
          go_wp2_with fail
          go_meet
          exact ⟨_, HE.out, rfl⟩
        · have HE : Hid (P _ w1) := he
          clear he hb HP
          go_wp2_with fail
          go_meet
          exact ⟨_, HE.out, rfl⟩
      | true =>
        go_wp2_with fail
        refine (HP.out _ (by rw [HAP.out]; rfl)).mono ?_
        rintro e w1 he
        obtain ⟨hb, ⟨c, rfl, -⟩ | ⟨c, sa, sn, sc, d, rfl, -⟩⟩ := HQ.out e w1 he
        · have HE : Hid (P _ w1) := he
          clear he hb HP
          go_wp2_with fail
          go_meet
          exact ⟨_, HE.out, rfl⟩
        · have HE : Hid (P _ w1) := he
          clear he hb HP
          go_wp2_with fail
          go_meet
          exact ⟨_, HE.out, rfl⟩
    case rest =>
      obtain ⟨e, he, hee⟩ := hcut.out
      subst hee
      have hq := HQ.out _ _ he
      clear hcut he HP HQ
      obtain ⟨hb, hq⟩ := hq
      have HBel : Hid (Below w.heap.size w wc) := hb
      clear hb hx hc0 hc2
      rcases hq with ⟨c, he, hq⟩ | ⟨c, sa, sn, sc, d, he, hq⟩
      · simp only [Ending.returned.injEq, Value.tuple.injEq, Array.mk.injEq, List.cons.injEq, and_true] at he
        obtain ⟨rfl, rfl, rfl⟩ := he
        have HQ1 : Hid (∀ w' b g h, BldI wc w' b g h (i + r + 1) (ka ++ kb) (ca ++ .pointer c :: cb) → Q (.returned (.tuple #[.pointer (some ⟨b, 0, none⟩), .slice none 0 0, .pointer none])) w') := hq
        clear hq
        have HCl : Hid (Calls Ybaf.prog 39 #[.pointer (some ⟨b0, 0, none⟩)] wc fun e w' => ∃ b g h, e = .returned (.pointer (some ⟨b, 0, none⟩)) ∧ BldI wc w' b g h (i + r + 1) (ka ++ kb) (ca ++ .pointer x :: cb)) := by
          have hl : (ca ++ Value.pointer x :: cb).length = i + r + 1 := by have := LC.out; have := LD.out; simp; omega
          have := clone_inner ((HN.out.below HBel.out).innerV (by omega)) HSk.out HSc.out (by omega)
          rw [hl] at this
          exact this
        go_wp2_with fail
        refine HCl.out.mono ?_
        rintro e X ⟨b, g, h, rfl, hB⟩
        have HB : Hid (BldI wc X b g h (i + r + 1) (ka ++ kb) (ca ++ .pointer x :: cb)) := hB
        have m2 : X.cell? ⟨b, 2, none⟩ = some (.slice (some ⟨h, 0, none⟩) (i + r + 1) (i + r + 1)) := hB.1.1.c2
        obtain ⟨⟨o, ho⟩, hf⟩ := cellThere (j := i) hB.1.2.2.1 (by have := LC.out; have := LD.out; simp; omega)
        have HE : Hid (Q (.returned (.tuple #[.pointer (some ⟨b, 0, none⟩), .slice none 0 0, .pointer none])) (X.setCell ⟨h, i, none⟩ (.pointer c))) := by
          refine HQ1.out _ b g h ?_
          have := hB.kidCell (j := i) (.pointer c)
          rwa [set_mid ca cb (.pointer x) (.pointer c) i LC.out] at this
        clear hB HCl HQ1 HB
        go_wp2
        go_ret3
        exact HE.out
      · simp only [Ending.returned.injEq, Value.tuple.injEq, Array.mk.injEq, List.cons.injEq, and_true] at he
        obtain ⟨rfl, rfl, rfl⟩ := he
        have HQ2 : Hid (∀ w' b g h, BldI wc w' b g h (i + r + 2) (ka ++ .slice sa sn sc :: kb) (ca ++ .pointer c :: .pointer (some d) :: cb) → Q (.returned (.tuple #[.pointer (some ⟨b, 0, none⟩), .slice none 0 0, .pointer none])) w') := hq
        clear hq
        generalize hwc0 : wc = wc0 at *
        clear hwc0
        have HC : Hid (∀ (k : Int) (X : World), k = ((i + r + 2 : Nat) : Int) → Calls Ybaf.prog 32 #[.int .i64 k] X fun e Y => ∃ b g h Zk Zc, e = .returned (.pointer (some ⟨b, 0, none⟩)) ∧ BldI X Y b g h (i + r + 2) Zk Zc) := fun k X hk => by
          subst hk
          exact (newInner_any (i + r + 2) (by omega) (by omega) X).mono fun e Y ⟨b, g, h, h1, h2, h3, h4, h5, h6⟩ => ⟨b, g, h, _, _, h1, h2, h3, h4, h5, h6⟩
        have k2 : wc0.cell? ⟨b0, 2, none⟩ = some (.slice (some ⟨h0, 0, none⟩) (i + r + 1) (i + r + 1)) := (HW0.out.below HBel.out).c2
        have hw3 : IntKind.i64.wrap ((i : Int) + (r : Int) + 1 + 1) = (i : Int) + (r : Int) + 1 + 1 := IntWalk.i64_in _ ⟨by omega, by omega⟩
        go_wp2_with fail
        refine (HC.out _ _ (by omega)).mono ?_
        rintro e X ⟨b, g, h, Zk, Zc, rfl, hB0⟩
        have HB : Hid (BldI wc0 X b g h (i + r + 2) Zk Zc) := hB0
        obtain ⟨K1, K2, ⟨e1, q1⟩, ⟨e2, q2⟩, e3⟩ := ki_rows Zk ka kb (.slice sa sn sc) i r hB0.1.2.2.2.1 LA.out LB.out
        obtain ⟨C1, C2, ⟨f1, p1⟩, ⟨f2, p2⟩, f3⟩ := ci_rows Zc ca cb (.pointer c) (.pointer (some d)) i r hB0.1.2.2.2.2.1 LC.out LD.out
        have E1 : Hid (splice Zk 0 ka = K1) := e1
        have E2 : Hid (K1.set i (.slice sa sn sc) = K2) := e2
        have E3 : Hid (splice K2 (i + 1) kb = ka ++ .slice sa sn sc :: kb) := e3
        have F1 : Hid (splice Zc 0 ca = C1) := f1
        have F2 : Hid ((C1.set i (.pointer c)).set (i + 1) (.pointer (some d)) = C2) := f2
        have F3 : Hid (splice C2 (i + 2) cb = ca ++ .pointer c :: .pointer (some d) :: cb) := f3
        have Q0 : Hid (Zk.length = i + r + 1) := hB0.1.2.2.2.1
        have Q1 : Hid (K1.length = i + r + 1) := q1
        have Q2 : Hid (K2.length = i + r + 1) := q2
        have P0 : Hid (Zc.length = i + r + 2) := hB0.1.2.2.2.2.1
        have P1 : Hid (C1.length = i + r + 2) := p1
        have P2 : Hid (C2.length = i + r + 2) := p2
        clear hB0 e1 e2 e3 f1 f2 f3 q1 q2 p1 p2 HC k2 hil
        have NG : Hid (b ≠ g ∧ b0 ≠ g ∧ b ≠ h ∧ b0 ≠ h) := HB.out.apart (HW0.out.below HBel.out)
        have HW1 : Hid (NodeAt wc0 b0 (.slice (some ⟨g0, 0, none⟩) (i + r) (i + r)) (.slice none 0 0) (.slice (some ⟨h0, 0, none⟩) (i + r + 1) (i + r + 1))) := HW0.out.below HBel.out
        have hir : (i : Int) ≤ (i : Int) + (r : Int) := by omega
        have k0 : X.cell? ⟨b0, 0, none⟩ = some (.slice (some ⟨g0, 0, none⟩) (i + r) (i + r)) := (HW1.out.below HB.out.2.2.2.2).c0
        have m0 : X.cell? ⟨b, 0, none⟩ = some (.slice (some ⟨g, 0, none⟩) (i + r + 1) (i + r + 1)) := HB.out.1.1.c0
        go_upto_region 24 with (fail)
        go_cut [182] from 172 to 182 (fun _ wx => Hid (BldI wc0 wx b g h (i + r + 2) K1 Zc))
        case first =>
          go_region_held3 (fun w' => w'.cell? ⟨b, 0, none⟩ = some (.slice (some ⟨g, 0, none⟩) (i + r + 1) (i + r + 1)) ∧ w'.cell? ⟨b0, 0, none⟩ = some (.slice (some ⟨g0, 0, none⟩) (i + r) (i + r))) (go_keep) ((refine step_copy_keep rfl (.tmp 175) (.tmp 181) 35 35 rfl 22 Ybaf.underlying35 size22 (some ⟨g, 0, none⟩) (some ⟨g0, 0, none⟩) (i + r + 1) (i + r + 1) i (i + r) (by simp [Act.eval]) (by simp [Act.eval]) g 0 Zk 22 (by exact HB.out.1.2.1) ka (by rw [LA.out]; exact (Nat.min_eq_left (by omega)).symm) (fun h0 => ⟨rfl, RA.out.src (HBel.out.trans (HB.out.2.2.2.2.mono HBel.out.size)).drew h0⟩) (by rw [LA.out, Q0.out]; omega) SA.out ?_; intro X1 hr1 hk1; have qm0 : X1.cell? ⟨b, 0, none⟩ = some (.slice (some ⟨g, 0, none⟩) (i + r + 1) (i + r + 1)) := hk1.out.at NG.out.1 m0; have qk0 : X1.cell? ⟨b0, 0, none⟩ = some (.slice (some ⟨g0, 0, none⟩) (i + r) (i + r)) := hk1.out.at NG.out.2.1 k0))
          all_goals
            go_wp2_with fail
            go_meet
            rw [E1.out] at hr1; exact HB.out.keys hk1.out hr1.out (by rw [Q1.out, Q0.out])
        case rest =>
          have HB1x : Hid (BldI wc0 wc b g h (i + r + 2) K1 Zc) := hcut
          clear hcut k0 m0 HB E1
          have m0 : wc.cell? ⟨b, 0, none⟩ = some (.slice (some ⟨g, 0, none⟩) (i + r + 1) (i + r + 1)) := HB1x.out.1.1.c0
          have hil : (i : Int) < (i : Int) + (r : Int) + 1 := by omega
          obtain ⟨⟨o, ho⟩, hf⟩ := cellThere (j := i) HB1x.out.1.2.1 (by have := Q1.out; omega)
          have HB1y : Hid (BldI wc0 (wc.setCell ⟨g, i, none⟩ (.slice sa sn sc)) b g h (i + r + 2) K2 Zc) := by
            have := HB1x.out.keyCell (j := i) (.slice sa sn sc)
            rwa [E2.out] at this
          go_upto_region 25 with (fail)
          go_cut [189] from 183 to 189 (fun _ wx => Hid (BldI wc0 wx b g h (i + r + 2) K2 Zc))
          case first =>
            go_wp2_with fail
            go_meet
            exact HB1y.out
          case rest =>
            have HB2 : Hid (BldI wc0 wc b g h (i + r + 2) K2 Zc) := hcut
            clear hcut m0 ho hf o HB1x HB1y E2 hil
            have hw2 : IntKind.i64.wrap ((i : Int) + 1) = (i : Int) + 1 := IntWalk.i64_in _ ⟨by omega, by omega⟩
            have hz1 : (0 : Int) ≤ (i : Int) + 1 := by omega
            have ht2 : ((i : Int) + 1).toNat = i + 1 := by omega
            have hir1 : (i : Int) + 1 ≤ (i : Int) + (r : Int) + 1 := by omega
            have k0 : wc.cell? ⟨b0, 0, none⟩ = some (.slice (some ⟨g0, 0, none⟩) (i + r) (i + r)) := (HW1.out.below HB2.out.2.2.2.2).c0
            have m0 : wc.cell? ⟨b, 0, none⟩ = some (.slice (some ⟨g, 0, none⟩) (i + r + 1) (i + r + 1)) := HB2.out.1.1.c0
            obtain ⟨dp, hdp⟩ : ∃ dp : Option Addr, (if r = 0 then some ⟨g, 0, none⟩ else some ⟨g, i + 1, none⟩) = dp := ⟨_, rfl⟩
            obtain ⟨sp, hsp⟩ : ∃ sp : Option Addr, (if r = 0 then some ⟨g0, 0, none⟩ else some ⟨g0, i, none⟩) = sp := ⟨_, rfl⟩
            go_upto_region 26 with (fail)
            go_cut [203] from 190 to 203 (fun _ wx => Hid (BldI wc0 wx b g h (i + r + 2) (ka ++ .slice sa sn sc :: kb) Zc))
            case first =>
              go_region_held3 (fun w' => w'.cell? ⟨b, 0, none⟩ = some (.slice (some ⟨g, 0, none⟩) (i + r + 1) (i + r + 1)) ∧ w'.cell? ⟨b0, 0, none⟩ = some (.slice (some ⟨g0, 0, none⟩) (i + r) (i + r))) (go_keep) ((refine step_copy_keep rfl (.tmp 196) (.tmp 202) 35 35 rfl 22 Ybaf.underlying35 size22 dp sp r r r r (by simp [Act.eval]) (by simp [Act.eval]) g (i + 1) K2 22 (by exact HB2.out.1.2.1) kb (by rw [LB.out]; simp) (fun h0 => ⟨by rw [← hdp, if_neg (by have := LB.out; omega)], by rw [← hsp, if_neg (by have := LB.out; omega)]; exact RB.out.src (HBel.out.trans (HB2.out.2.2.2.2.mono HBel.out.size)).drew h0⟩) (by rw [LB.out, Q2.out]; omega) SB.out ?_; intro X1 hr1 hk1; have qm0 : X1.cell? ⟨b, 0, none⟩ = some (.slice (some ⟨g, 0, none⟩) (i + r + 1) (i + r + 1)) := hk1.out.at NG.out.1 m0; have qk0 : X1.cell? ⟨b0, 0, none⟩ = some (.slice (some ⟨g0, 0, none⟩) (i + r) (i + r)) := hk1.out.at NG.out.2.1 k0))
              all_goals
                go_wp2_with fail
                go_meet
                rw [E3.out] at hr1; exact HB2.out.keys hk1.out hr1.out (by have := LA.out; have := LB.out; have := Q2.out; simp; omega)
            case rest =>
              have HB3 : Hid (BldI wc0 wc b g h (i + r + 2) (ka ++ .slice sa sn sc :: kb) Zc) := hcut
              clear hcut k0 m0 HB2 E3 hdp hsp dp sp
              have k0 : wc.cell? ⟨b0, 2, none⟩ = some (.slice (some ⟨h0, 0, none⟩) (i + r + 1) (i + r + 1)) := (HW1.out.below HB3.out.2.2.2.2).c2
              have m0 : wc.cell? ⟨b, 2, none⟩ = some (.slice (some ⟨h, 0, none⟩) (i + r + 2) (i + r + 2)) := HB3.out.1.1.c2
              have hir3 : (i : Int) ≤ (i : Int) + (r : Int) + 1 := by omega
              go_upto_region 27 with (fail)
              go_cut [214] from 204 to 214 (fun _ wx => Hid (BldI wc0 wx b g h (i + r + 2) (ka ++ .slice sa sn sc :: kb) C1))
              case first =>
                go_region_held3 (fun w' => w'.cell? ⟨b, 2, none⟩ = some (.slice (some ⟨h, 0, none⟩) (i + r + 2) (i + r + 2)) ∧ w'.cell? ⟨b0, 2, none⟩ = some (.slice (some ⟨h0, 0, none⟩) (i + r + 1) (i + r + 1))) (go_keep) ((refine step_copy_keep rfl (.tmp 207) (.tmp 213) 89 89 rfl 57 Ybaf.underlying89 size57 (some ⟨h, 0, none⟩) (some ⟨h0, 0, none⟩) (i + r + 2) (i + r + 2) i (i + r + 1) (by simp [Act.eval]) (by simp [Act.eval]) h 0 Zc 57 (by exact HB3.out.1.2.2.1) ca (by rw [LC.out]; exact (Nat.min_eq_left (by omega)).symm) (fun h0 => ⟨rfl, RC.out.src (HBel.out.trans (HB3.out.2.2.2.2.mono HBel.out.size)).drew h0⟩) (by rw [LC.out, P0.out]; omega) SC.out ?_; intro X1 hr1 hk1; have qm0 : X1.cell? ⟨b, 2, none⟩ = some (.slice (some ⟨h, 0, none⟩) (i + r + 2) (i + r + 2)) := hk1.out.at NG.out.2.2.1 m0; have qk0 : X1.cell? ⟨b0, 2, none⟩ = some (.slice (some ⟨h0, 0, none⟩) (i + r + 1) (i + r + 1)) := hk1.out.at NG.out.2.2.2 k0))
                all_goals
                  go_wp2_with fail
                  go_meet
                  rw [F1.out] at hr1; exact HB3.out.kids hk1.out hr1.out (by rw [P1.out, P0.out])
              case rest =>
                have HB4 : Hid (BldI wc0 wc b g h (i + r + 2) (ka ++ .slice sa sn sc :: kb) C1) := hcut
                clear hcut k0 m0 HB3 F1
                have m0 : wc.cell? ⟨b, 2, none⟩ = some (.slice (some ⟨h, 0, none⟩) (i + r + 2) (i + r + 2)) := HB4.out.1.1.c2
                obtain ⟨⟨o1, c1⟩, f1⟩ := cellThere (j := i) HB4.out.1.2.2.1 (by have := P1.out; omega)
                obtain ⟨⟨o2, c2⟩, f2⟩ := cellThere (j := i + 1) HB4.out.1.2.2.1 (by have := P1.out; omega)
                have hil : (i : Int) < (i : Int) + (r : Int) + 2 := by omega
                have hil1 : (i : Int) + 1 < (i : Int) + (r : Int) + 2 := by omega
                have HB5x : Hid (BldI wc0 ((wc.setCell ⟨h, i, none⟩ (.pointer c)).setCell ⟨h, i + 1, none⟩ (.pointer (some d))).drew b g h (i + r + 2) (ka ++ .slice sa sn sc :: kb) C2) := by
                  have := ((HB4.out.kidCell (j := i) (.pointer c)).kidCell (j := i + 1) (.pointer (some d))).drew
                  rwa [F2.out] at this
                go_upto_region 28 with (fail)
                go_cut [228] from 215 to 229 (fun _ wx => Hid (BldI wc0 wx b g h (i + r + 2) (ka ++ .slice sa sn sc :: kb) C2))
                case first =>
                  go_region
                  all_goals
                    go_wp2_with fail
                    go_meet
                    exact HB5x.out
                case rest =>
                  have HB5 : Hid (BldI wc0 wc b g h (i + r + 2) (ka ++ .slice sa sn sc :: kb) C2) := hcut
                  clear hcut m0 c1 f1 c2 f2 HB4 HB5x F2 hil hil1
                  have hw4 : IntKind.i64.wrap ((i : Int) + 2) = (i : Int) + 2 := IntWalk.i64_in _ ⟨by omega, by omega⟩
                  have hz4 : (0 : Int) ≤ (i : Int) + 2 := by omega
                  have ht4 : ((i : Int) + 2).toNat = i + 2 := by omega
                  have hir4 : (i : Int) + 2 ≤ (i : Int) + (r : Int) + 2 := by omega
                  have k0 : wc.cell? ⟨b0, 2, none⟩ = some (.slice (some ⟨h0, 0, none⟩) (i + r + 1) (i + r + 1)) := (HW1.out.below HB5.out.2.2.2.2).c2
                  have m0 : wc.cell? ⟨b, 2, none⟩ = some (.slice (some ⟨h, 0, none⟩) (i + r + 2) (i + r + 2)) := HB5.out.1.1.c2
                  obtain ⟨dp, hdp⟩ : ∃ dp : Option Addr, (if r = 0 then some ⟨h, 0, none⟩ else some ⟨h, i + 2, none⟩) = dp := ⟨_, rfl⟩
                  obtain ⟨sp, hsp⟩ : ∃ sp : Option Addr, (if r = 0 then some ⟨h0, 0, none⟩ else some ⟨h0, i + 1, none⟩) = sp := ⟨_, rfl⟩
                  go_upto_region 29 with (fail)
                  go_cut [244] from 230 to 244 (fun _ wx => Hid (BldI wc0 wx b g h (i + r + 2) (ka ++ .slice sa sn sc :: kb) (ca ++ .pointer c :: .pointer (some d) :: cb)))
                  case first =>
                    go_region_held3 (fun w' => w'.cell? ⟨b, 2, none⟩ = some (.slice (some ⟨h, 0, none⟩) (i + r + 2) (i + r + 2)) ∧ w'.cell? ⟨b0, 2, none⟩ = some (.slice (some ⟨h0, 0, none⟩) (i + r + 1) (i + r + 1))) (go_keep) ((refine step_copy_keep rfl (.tmp 236) (.tmp 243) 89 89 rfl 57 Ybaf.underlying89 size57 dp sp r r r r (by simp [Act.eval]) (by simp [Act.eval]) h (i + 2) C2 57 (by exact HB5.out.1.2.2.1) cb (by rw [LD.out]; simp) (fun h0 => ⟨by rw [← hdp, if_neg (by have := LD.out; omega)], by rw [← hsp, if_neg (by have := LD.out; omega)]; exact RD.out.src (HBel.out.trans (HB5.out.2.2.2.2.mono HBel.out.size)).drew h0⟩) (by rw [LD.out, P2.out]; omega) SD.out ?_; intro X1 hr1 hk1; have qm0 : X1.cell? ⟨b, 2, none⟩ = some (.slice (some ⟨h, 0, none⟩) (i + r + 2) (i + r + 2)) := hk1.out.at NG.out.2.2.1 m0; have qk0 : X1.cell? ⟨b0, 2, none⟩ = some (.slice (some ⟨h0, 0, none⟩) (i + r + 1) (i + r + 1)) := hk1.out.at NG.out.2.2.2 k0))
                    all_goals
                      go_wp2_with fail
                      go_meet
                      rw [F3.out] at hr1; exact HB5.out.kids hk1.out hr1.out (by have := LC.out; have := LD.out; have := P2.out; simp; omega)
                  case rest =>
                    have HB6 : Hid (BldI wc0 wc b g h (i + r + 2) (ka ++ .slice sa sn sc :: kb) (ca ++ .pointer c :: .pointer (some d) :: cb)) := hcut
                    clear hcut k0 m0 HB5 F3 hdp hsp dp sp
                    have HOv : Hid (Calls Ybaf.prog 40 #[.pointer (some ⟨b, 0, none⟩)] wc fun e w' => e = .returned (.bool false) ∧ w' = wc) := by
                      have hl : (ca ++ Value.pointer c :: .pointer (some d) :: cb).length = i + r + 2 := by have := LC.out; have := LD.out; simp; omega
                      have := over_inner (HB6.out.1.innerV (by omega))
                      rw [hl, decide_eq_false (by omega)] at this
                      exact this
                    have HE : Hid (Q (.returned (.tuple #[.pointer (some ⟨b, 0, none⟩), .slice none 0 0, .pointer none])) wc) := HQ2.out _ b g h HB6.out
                    clear HB6 HQ2
                    go_wp2_with fail
                    refine HOv.out.mono ?_
                    rintro e w1 ⟨rfl, hw⟩
                    have hw := hw.symm
                    subst hw
                    clear HOv
                    go_wp2
                    go_ret3
                    exact HE.out

end Go.Proofs.YbulkbgzmFmt
