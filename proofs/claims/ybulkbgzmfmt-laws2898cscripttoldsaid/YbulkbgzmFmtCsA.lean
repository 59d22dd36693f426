/-
  CScript: 'delete' at a leaf.
-/
import Derived.Test.YbulkbgzmFmtCs9
namespace Go.Proofs.YbulkbgzmFmt
open Go.RowKit Go.Stop
set_option linter.unusedVariables false

theorem four_parts (Z : List Value) (i r : Nat) (h : Z.length = 2 * (i + r)) : ∃ za zb zc zd, Z = za ++ (zb ++ (zc ++ zd)) ∧ za.length = i ∧ zb.length = r ∧ zc.length = i ∧ zd.length = r := by
  obtain ⟨za, Z1, rfl, h1⟩ : ∃ a b, Z = a ++ b ∧ a.length = i := ⟨Z.take i, Z.drop i, by simp, by simp; omega⟩
  simp only [List.length_append] at h
  obtain ⟨zb, Z3, rfl, h2⟩ : ∃ a b, Z1 = a ++ b ∧ a.length = r := ⟨Z1.take r, Z1.drop r, by simp, by simp; omega⟩
  simp only [List.length_append] at h
  obtain ⟨zc, zd, rfl, h3⟩ : ∃ a b, Z3 = a ++ b ∧ a.length = i := ⟨Z3.take i, Z3.drop i, by simp, by simp; omega⟩
  simp only [List.length_append] at h
  exact ⟨za, zb, zc, zd, rfl, h1, h2, h3, by omega⟩

theorem del_rows (Z ka kb va vb : List Value) (i r : Nat) (hZ : Z.length = 2 * (i + r)) (l1 : ka.length = i) (l2 : kb.length = r) (l3 : va.length = i) (l4 : vb.length = r) :
    ∃ R1 R2 R3, (splice Z 0 ka = R1 ∧ R1.length = 2 * (i + r)) ∧ (splice R1 (i + r) va = R2 ∧ R2.length = 2 * (i + r)) ∧ (splice R2 i kb = R3 ∧ R3.length = 2 * (i + r)) ∧ splice R3 (i + r + i) vb = (ka ++ kb) ++ (va ++ vb) := by
  obtain ⟨za, zb, zc, zd, rfl, h1, h2, h3, h4⟩ := four_parts Z i r hZ
  refine ⟨ka ++ (zb ++ (zc ++ zd)), ka ++ (zb ++ (va ++ zd)), ka ++ (kb ++ (va ++ zd)), ⟨?_, ?_⟩, ⟨?_, ?_⟩, ⟨?_, ?_⟩, ?_⟩
  · simpa using splice_mid [] za (zb ++ (zc ++ zd)) ka 0 rfl (by omega)
  · simp; omega
  · simpa using splice_mid (ka ++ zb) zc zd va (i + r) (by simp; omega) (by omega)
  · simp; omega
  · simpa using splice_mid ka zb (va ++ zd) kb i l1 (by omega)
  · simp; omega
  · simpa using splice_mid (ka ++ (kb ++ va)) zd [] vb (i + r + i) (by simp; omega) (by omega)

set_option maxRecDepth 100000 in
set_option maxHeartbeats 2000000 in
theorem del_none {w : World} {key : Value} {b0 g0 n i : Nat} {cur : List Value} (h : NewLeaf w b0 g0 n cur)
    (hS : Calls Ybaf.prog 35 #[.slice (some ⟨g0, 0, none⟩) n n, key] w fun e w' => e = .returned (.tuple #[.int .i64 (i : Nat), .bool false]) ∧ w' = w) :
    Calls Ybaf.prog 33 #[.pointer (some ⟨b0, 0, none⟩), key] w fun e w' => e = .returned (.pointer (some ⟨b0, 0, none⟩)) ∧ w' = w := by
  have n1 := nil89
  have h0 := h.1.c0
  have h2 := h.1.c2
  have HS : Hid (Calls Ybaf.prog 35 #[.slice (some ⟨g0, 0, none⟩) n n, key] w fun e w' => e = .returned (.tuple #[.int .i64 (i : Nat), .bool false]) ∧ w' = w) := hS
  clear h hS
  go_enter Ybaf.func33, Ybaf.ntmps33
  go_wp2_with fail
  refine HS.out.mono ?_
  rintro e w1 ⟨rfl, hw⟩
  have hw := hw.symm
  subst hw
  clear HS
  go_wp2
  go_ret
  exact ⟨rfl, rfl⟩

set_option maxRecDepth 100000 in
set_option maxHeartbeats 4000000 in
theorem del_leaf {w : World} {ak : Option Addr} {b0 g0 i r nk ck : Nat} {ka kb va vb : List Value} {x y : Value} (h : NewLeaf w b0 g0 (i + r + 1) ((ka ++ x :: kb) ++ (va ++ y :: vb))) (l1 : ka.length = i) (l2 : kb.length = r) (l3 : va.length = i) (l4 : vb.length = r)
    (s1 : Sls (ka ++ x :: kb)) (s2 : Sls (va ++ y :: vb)) (hn : i + r ≤ 40)
    (hS : Calls Ybaf.prog 35 #[.slice (some ⟨g0, 0, none⟩) (i + r + 1) (i + r + 1), .slice ak nk ck] w fun e w' => e = .returned (.tuple #[.int .i64 (i : Nat), .bool true]) ∧ w' = w) :
    Calls Ybaf.prog 33 #[.pointer (some ⟨b0, 0, none⟩), .slice ak nk ck] w fun e w' => ∃ b g, e = .returned (.pointer (some ⟨b, 0, none⟩)) ∧ Bld w w' b g (i + r) ((ka ++ kb) ++ (va ++ vb)) := by
  obtain ⟨hrk, hrv⟩ := h.rows (by simp; omega)
  have n1 := nil89
  have h0 := h.1.c0
  have h2 := h.1.c2
  have HW0 : Hid (NodeAt w b0 (.slice (some ⟨g0, 0, none⟩) (i + r + 1) (i + r + 1)) (.slice (some ⟨g0, i + r + 1, none⟩) (i + r + 1) (i + r + 1)) (.slice none 0 0)) := h.1
  have RA : Hid (RowAt w (some ⟨g0, 0, none⟩) ka) := hrk.left
  have RB : Hid (RowAt w (some ⟨g0, i + 1, none⟩) kb) := by
    have := RowAt.right (xs := ka ++ [x]) (ys := kb) (m := i + 1) (by simpa using hrk) (by simp; omega)
    rwa [Nat.zero_add] at this
  have RC : Hid (RowAt w (some ⟨g0, i + r + 1, none⟩) va) := hrv.left
  have RD : Hid (RowAt w (some ⟨g0, i + r + 1 + (i + 1), none⟩) vb) := RowAt.right (xs := va ++ [y]) (ys := vb) (m := i + 1) (by simpa using hrv) (by simp; omega)
  have SA : Hid (Sls ka) := s1.left
  have SB : Hid (Sls kb) := Sls.right (xs := ka ++ [x]) (by simpa using s1)
  have SC : Hid (Sls va) := s2.left
  have SD : Hid (Sls vb) := Sls.right (xs := va ++ [y]) (by simpa using s2)
  have LA : Hid (ka.length = i) := l1
  have LB : Hid (kb.length = r) := l2
  have LC : Hid (va.length = i) := l3
  have LD : Hid (vb.length = r) := l4
  have HS : Hid (Calls Ybaf.prog 35 #[.slice (some ⟨g0, 0, none⟩) (i + r + 1) (i + r + 1), .slice ak nk ck] w fun e w' => e = .returned (.tuple #[.int .i64 (i : Nat), .bool true]) ∧ w' = w) := hS
  have HC : Hid (∀ (k : Int) (X : World), k = ((i + r : Nat) : Int) → Calls Ybaf.prog 30 #[.int .i64 k] X fun e Y => ∃ b g, e = .returned (.pointer (some ⟨b, 0, none⟩)) ∧ Mk X Y b g (i + r)) := fun k X hk => by
    subst hk
    exact (newLeaf_any (i + r) (by omega) X).mono fun e Y ⟨b, g, h1, h2, h3, h4, h5⟩ => ⟨b, g, h1, h2, h3, h4, h5⟩
  have HPR : Hid (∀ Z : List Value, Z.length = 2 * (i + r) → ∃ R1 R2 R3, (splice Z 0 ka = R1 ∧ R1.length = 2 * (i + r)) ∧ (splice R1 (i + r) va = R2 ∧ R2.length = 2 * (i + r)) ∧ (splice R2 i kb = R3 ∧ R3.length = 2 * (i + r)) ∧ splice R3 (i + r + i) vb = (ka ++ kb) ++ (va ++ vb)) := fun Z hZ => del_rows Z ka kb va vb i r hZ l1 l2 l3 l4
  clear h hrk hrv s1 s2 l1 l2 l3 l4 hS
  have hw1 : IntKind.i64.wrap ((i : Int) + (r : Int)) = (i : Int) + (r : Int) := IntWalk.i64_in _ ⟨by omega, by omega⟩
  go_enter Ybaf.func33, Ybaf.ntmps33
  go_wp2_with fail
  refine HS.out.mono ?_
  rintro e w1 ⟨rfl, hw⟩
  have hw := hw.symm
  subst hw
  clear HS
  go_wp2_with fail
  refine (HC.out _ _ (by omega)).mono ?_
  rintro e X ⟨b, g, rfl, hmk⟩
  obtain ⟨R0, hR0, hB0⟩ : ∃ Z : List Value, Z.length = 2 * (i + r) ∧ Bld w X b g (i + r) Z := ⟨_, by simp, hmk⟩
  have HB : Hid (Bld w X b g (i + r) R0) := hB0
  obtain ⟨R1, R2, R3, ⟨e1, q1⟩, ⟨e2, q2⟩, ⟨e3, q3⟩, e4⟩ := HPR.out R0 hR0
  have E1 : Hid (splice R0 0 ka = R1) := e1
  have E2 : Hid (splice R1 (i + r) va = R2) := e2
  have E3 : Hid (splice R2 i kb = R3) := e3
  have E4 : Hid (splice R3 (i + r + i) vb = (ka ++ kb) ++ (va ++ vb)) := e4
  have Q0 : Hid (R0.length = 2 * (i + r)) := hR0
  have Q1 : Hid (R1.length = 2 * (i + r)) := q1
  have Q2 : Hid (R2.length = 2 * (i + r)) := q2
  have Q3 : Hid (R3.length = 2 * (i + r)) := q3
  clear hmk hB0 HPR e1 e2 e3 e4 q1 q2 q3 hR0 HC h0 h2
  have hir : (i : Int) ≤ (i : Int) + (r : Int) + 1 := by omega
  have hir2 : (i : Int) ≤ (i : Int) + (r : Int) := by omega
  have NG : Hid (b ≠ g ∧ b0 ≠ g) := HB.out.apart HW0.out
  have k0 : X.cell? ⟨b0, 0, none⟩ = some (.slice (some ⟨g0, 0, none⟩) (i + r + 1) (i + r + 1)) := (HW0.out.below HB.out.2.2.2).c0
  have m0 : X.cell? ⟨b, 0, none⟩ = some (.slice (some ⟨g, 0, none⟩) (i + r) (i + r)) := HB.out.1.1.c0
  go_upto_region 6 with (fail)
  go_cut [53] from 43 to 53 (fun _ wx => Hid (Bld w wx b g (i + r) R1))
  case first =>
    go_region_held3 (fun w' => w'.cell? ⟨b, 0, none⟩ = some (.slice (some ⟨g, 0, none⟩) (i + r) (i + r)) ∧ w'.cell? ⟨b0, 0, none⟩ = some (.slice (some ⟨g0, 0, none⟩) (i + r + 1) (i + r + 1))) (go_keep) ((refine step_copy_keep rfl (.tmp 46) (.tmp 52) 35 35 rfl 22 Ybaf.underlying35 size22 (some ⟨g, 0, none⟩) (some ⟨g0, 0, none⟩) (i + r) (i + r) i (i + r + 1) (by simp [Act.eval]) (by simp [Act.eval]) g 0 R0 22 (by exact HB.out.1.2.1) ka (by rw [LA.out]; exact (Nat.min_eq_left (by omega)).symm) (fun h0 => ⟨rfl, RA.out.src HB.out.2.2.2.drew h0⟩) (by rw [LA.out, Q0.out]; omega) SA.out ?_; intro X1 hr1 hk1; have qm0 : X1.cell? ⟨b, 0, none⟩ = some (.slice (some ⟨g, 0, none⟩) (i + r) (i + r)) := hk1.out.at NG.out.1 m0; have qk0 : X1.cell? ⟨b0, 0, none⟩ = some (.slice (some ⟨g0, 0, none⟩) (i + r + 1) (i + r + 1)) := hk1.out.at NG.out.2 k0))
    all_goals
      go_wp2_with fail
      go_meet
      rw [E1.out] at hr1; exact HB.out.next hk1.out hr1.out (by rw [Q1.out, Q0.out])
  case rest =>
    have HB1 : Hid (Bld w wc b g (i + r) R1) := hcut
    clear hcut k0 m0 HB E1
    have k0 : wc.cell? ⟨b0, 1, none⟩ = some (.slice (some ⟨g0, i + r + 1, none⟩) (i + r + 1) (i + r + 1)) := (HW0.out.below HB1.out.2.2.2).c1
    have m0 : wc.cell? ⟨b, 1, none⟩ = some (.slice (some ⟨g, i + r, none⟩) (i + r) (i + r)) := HB1.out.1.1.c1
    go_upto_region 7 with (fail)
    go_cut [64] from 54 to 64 (fun _ wx => Hid (Bld w wx b g (i + r) R2))
    case first =>
      go_region_held3 (fun w' => w'.cell? ⟨b, 1, none⟩ = some (.slice (some ⟨g, i + r, none⟩) (i + r) (i + r)) ∧ w'.cell? ⟨b0, 1, none⟩ = some (.slice (some ⟨g0, i + r + 1, none⟩) (i + r + 1) (i + r + 1))) (go_keep) ((refine step_copy_keep rfl (.tmp 57) (.tmp 63) 35 35 rfl 22 Ybaf.underlying35 size22 (some ⟨g, i + r, none⟩) (some ⟨g0, i + r + 1, none⟩) (i + r) (i + r) i (i + r + 1) (by simp [Act.eval]) (by simp [Act.eval]) g (i + r) R1 22 (by exact HB1.out.1.2.1) va (by rw [LC.out]; exact (Nat.min_eq_left (by omega)).symm) (fun h0 => ⟨rfl, RC.out.src HB1.out.2.2.2.drew h0⟩) (by rw [LC.out, Q1.out]; omega) SC.out ?_; intro X1 hr1 hk1; have qm0 : X1.cell? ⟨b, 1, none⟩ = some (.slice (some ⟨g, i + r, none⟩) (i + r) (i + r)) := hk1.out.at NG.out.1 m0; have qk0 : X1.cell? ⟨b0, 1, none⟩ = some (.slice (some ⟨g0, i + r + 1, none⟩) (i + r + 1) (i + r + 1)) := hk1.out.at NG.out.2 k0))
      all_goals
        go_wp2_with fail
        go_meet
        rw [E2.out] at hr1; exact HB1.out.next hk1.out hr1.out (by rw [Q2.out, Q1.out])
    case rest =>
      have HB2 : Hid (Bld w wc b g (i + r) R2) := hcut
      clear hcut k0 m0 HB1 E2
      have hw2 : IntKind.i64.wrap ((i : Int) + 1) = (i : Int) + 1 := IntWalk.i64_in _ ⟨by omega, by omega⟩
      have hz1 : (0 : Int) ≤ (i : Int) + 1 := by omega
      have ht2 : ((i : Int) + 1).toNat = i + 1 := by omega
      have hir1 : (i : Int) + 1 ≤ (i : Int) + (r : Int) + 1 := by omega
      have k0 : wc.cell? ⟨b0, 0, none⟩ = some (.slice (some ⟨g0, 0, none⟩) (i + r + 1) (i + r + 1)) := (HW0.out.below HB2.out.2.2.2).c0
      have m0 : wc.cell? ⟨b, 0, none⟩ = some (.slice (some ⟨g, 0, none⟩) (i + r) (i + r)) := HB2.out.1.1.c0
      obtain ⟨dp, hdp⟩ : ∃ dp : Option Addr, (if r = 0 then some ⟨g, 0, none⟩ else some ⟨g, i, none⟩) = dp := ⟨_, rfl⟩
      obtain ⟨sp, hsp⟩ : ∃ sp : Option Addr, (if r = 0 then some ⟨g0, 0, none⟩ else some ⟨g0, i + 1, none⟩) = sp := ⟨_, rfl⟩
      go_upto_region 8 with (fail)
      go_cut [78] from 65 to 78 (fun _ wx => Hid (Bld w wx b g (i + r) R3))
      case first =>
        go_region_held3 (fun w' => w'.cell? ⟨b, 0, none⟩ = some (.slice (some ⟨g, 0, none⟩) (i + r) (i + r)) ∧ w'.cell? ⟨b0, 0, none⟩ = some (.slice (some ⟨g0, 0, none⟩) (i + r + 1) (i + r + 1))) (go_keep) ((refine step_copy_keep rfl (.tmp 70) (.tmp 77) 35 35 rfl 22 Ybaf.underlying35 size22 dp sp r r r r (by simp [Act.eval]) (by simp [Act.eval]) g i R2 22 (by exact HB2.out.1.2.1) kb (by rw [LB.out]; simp) (fun h0 => ⟨by rw [← hdp, if_neg (by have := LB.out; omega)], by rw [← hsp, if_neg (by have := LB.out; omega)]; exact RB.out.src HB2.out.2.2.2.drew h0⟩) (by rw [LB.out, Q2.out]; omega) SB.out ?_; intro X1 hr1 hk1; have qm0 : X1.cell? ⟨b, 0, none⟩ = some (.slice (some ⟨g, 0, none⟩) (i + r) (i + r)) := hk1.out.at NG.out.1 m0; have qk0 : X1.cell? ⟨b0, 0, none⟩ = some (.slice (some ⟨g0, 0, none⟩) (i + r + 1) (i + r + 1)) := hk1.out.at NG.out.2 k0))
        all_goals
          go_wp2_with fail
          go_meet
          rw [E3.out] at hr1; exact HB2.out.next hk1.out hr1.out (by rw [Q3.out, Q2.out])
      case rest =>
        have HB3 : Hid (Bld w wc b g (i + r) R3) := hcut
        clear hcut k0 m0 HB2 E3 hdp hsp dp sp
        have k0 : wc.cell? ⟨b0, 1, none⟩ = some (.slice (some ⟨g0, i + r + 1, none⟩) (i + r + 1) (i + r + 1)) := (HW0.out.below HB3.out.2.2.2).c1
        have m0 : wc.cell? ⟨b, 1, none⟩ = some (.slice (some ⟨g, i + r, none⟩) (i + r) (i + r)) := HB3.out.1.1.c1
        obtain ⟨dp, hdp⟩ : ∃ dp : Option Addr, (if r = 0 then some ⟨g, i + r, none⟩ else some ⟨g, i + r + i, none⟩) = dp := ⟨_, rfl⟩
        obtain ⟨sp, hsp⟩ : ∃ sp : Option Addr, (if r = 0 then some ⟨g0, i + r + 1, none⟩ else some ⟨g0, i + r + 1 + (i + 1), none⟩) = sp := ⟨_, rfl⟩
        go_upto_region 9 with (fail)
        go_cut [92] from 79 to 92 (fun _ wx => Hid (Bld w wx b g (i + r) ((ka ++ kb) ++ (va ++ vb))))
        case first =>
          go_region_held3 (fun w' => w'.cell? ⟨b, 1, none⟩ = some (.slice (some ⟨g, i + r, none⟩) (i + r) (i + r)) ∧ w'.cell? ⟨b0, 1, none⟩ = some (.slice (some ⟨g0, i + r + 1, none⟩) (i + r + 1) (i + r + 1))) (go_keep) ((refine step_copy_keep rfl (.tmp 84) (.tmp 91) 35 35 rfl 22 Ybaf.underlying35 size22 dp sp r r r r (by simp [Act.eval]) (by simp [Act.eval]) g (i + r + i) R3 22 (by exact HB3.out.1.2.1) vb (by rw [LD.out]; simp) (fun h0 => ⟨by rw [← hdp, if_neg (by have := LD.out; omega)], by rw [← hsp, if_neg (by have := LD.out; omega)]; exact RD.out.src HB3.out.2.2.2.drew h0⟩) (by rw [LD.out, Q3.out]; omega) SD.out ?_; intro X1 hr1 hk1; have qm0 : X1.cell? ⟨b, 1, none⟩ = some (.slice (some ⟨g, i + r, none⟩) (i + r) (i + r)) := hk1.out.at NG.out.1 m0; have qk0 : X1.cell? ⟨b0, 1, none⟩ = some (.slice (some ⟨g0, i + r + 1, none⟩) (i + r + 1) (i + r + 1)) := hk1.out.at NG.out.2 k0))
          all_goals
            go_wp2_with fail
            go_meet
            rw [E4.out] at hr1; exact HB3.out.next hk1.out hr1.out (by have := LA.out; have := LB.out; have := LC.out; have := LD.out; have := Q3.out; simp; omega)
        case rest =>
          have HB4 : Hid (Bld w wc b g (i + r) ((ka ++ kb) ++ (va ++ vb))) := hcut
          clear hcut k0 m0 HB3 E4 hdp hsp dp sp
          go_wp2
          go_ret
          exact ⟨b, g, rfl, HB4.out⟩

end Go.Proofs.YbulkbgzmFmt
