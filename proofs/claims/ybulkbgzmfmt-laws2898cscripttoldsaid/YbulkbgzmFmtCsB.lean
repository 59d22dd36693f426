/-
  CScript: 'join' of two leaves.
-/
import Derived.Test.YbulkbgzmFmtCsA
namespace Go.Proofs.YbulkbgzmFmt
open Go.RowKit Go.Stop
set_option linter.unusedVariables false

set_option maxRecDepth 100000 in
set_option maxHeartbeats 4000000 in
theorem join_leaves {w : World} {kp : Value} {bA gA bB gB i r : Nat} {ka kb va vb : List Value} (ha : NewLeaf w bA gA i (ka ++ va)) (hb : NewLeaf w bB gB r (kb ++ vb)) (l1 : ka.length = i) (l2 : kb.length = r) (l3 : va.length = i) (l4 : vb.length = r)
    (s1 : Sls ka) (s2 : Sls kb) (s3 : Sls va) (s4 : Sls vb) (hn : i + r ≤ 64) :
    Calls Ybaf.prog 44 #[.pointer (some ⟨bA, 0, none⟩), kp, .pointer (some ⟨bB, 0, none⟩)] w fun e w' => ∃ b g, e = .returned (.pointer (some ⟨b, 0, none⟩)) ∧ Bld w w' b g (i + r) ((ka ++ kb) ++ (va ++ vb)) := by
  obtain ⟨hra, hrb⟩ := ha.rows l1
  obtain ⟨hrc, hrd⟩ := hb.rows l2
  have n1 := nil89
  have hA0 := ha.1.c0
  have hA2 := ha.1.c2
  have hB0 := hb.1.c0
  have HA : Hid (NodeAt w bA (.slice (some ⟨gA, 0, none⟩) i i) (.slice (some ⟨gA, i, none⟩) i i) (.slice none 0 0)) := ha.1
  have HBn : Hid (NodeAt w bB (.slice (some ⟨gB, 0, none⟩) r r) (.slice (some ⟨gB, r, none⟩) r r) (.slice none 0 0)) := hb.1
  have RA : Hid (RowAt w (some ⟨gA, 0, none⟩) ka) := hra
  have RC : Hid (RowAt w (some ⟨gA, i, none⟩) va) := hrb
  have RB : Hid (RowAt w (some ⟨gB, 0, none⟩) kb) := hrc
  have RD : Hid (RowAt w (some ⟨gB, r, none⟩) vb) := hrd
  have SA : Hid (Sls ka) := s1
  have SB : Hid (Sls kb) := s2
  have SC : Hid (Sls va) := s3
  have SD : Hid (Sls vb) := s4
  have LA : Hid (ka.length = i) := l1
  have LB : Hid (kb.length = r) := l2
  have LC : Hid (va.length = i) := l3
  have LD : Hid (vb.length = r) := l4
  have HC : Hid (∀ (k : Int) (X : World), k = ((i + r : Nat) : Int) → Calls Ybaf.prog 30 #[.int .i64 k] X fun e Y => ∃ b g, e = .returned (.pointer (some ⟨b, 0, none⟩)) ∧ Mk X Y b g (i + r)) := fun k X hk => by
    subst hk
    exact (newLeaf_any (i + r) (by omega) X).mono fun e Y ⟨b, g, h1, h2, h3, h4, h5⟩ => ⟨b, g, h1, h2, h3, h4, h5⟩
  have HPR : Hid (∀ Z : List Value, Z.length = 2 * (i + r) → ∃ R1 R2 R3, (splice Z 0 ka = R1 ∧ R1.length = 2 * (i + r)) ∧ (splice R1 (i + r) va = R2 ∧ R2.length = 2 * (i + r)) ∧ (splice R2 i kb = R3 ∧ R3.length = 2 * (i + r)) ∧ splice R3 (i + r + i) vb = (ka ++ kb) ++ (va ++ vb)) := fun Z hZ => del_rows Z ka kb va vb i r hZ l1 l2 l3 l4
  clear ha hb hra hrb hrc hrd s1 s2 s3 s4 l1 l2 l3 l4
  have hw1 : IntKind.i64.wrap ((i : Int) + (r : Int)) = (i : Int) + (r : Int) := IntWalk.i64_in _ ⟨by omega, by omega⟩
  go_enter Ybaf.func44, Ybaf.ntmps44
  go_upto_region 2 with (fail)
  go_cut [7] from 14 to 25 (fun m wx => ∃ b g R0, m = .pointer (some ⟨b, 0, none⟩) ∧ Hid (Bld w wx b g (i + r) R0 ∧ R0.length = 2 * (i + r)))
  case first =>
    go_region_held3 (fun w' => w'.cell? ⟨bA, 0, none⟩ = some (.slice (some ⟨gA, 0, none⟩) i i) ∧ w'.cell? ⟨bB, 0, none⟩ = some (.slice (some ⟨gB, 0, none⟩) r r)) (go_keep) ((go_at_call 30; refine (HC.out _ _ (by omega)).mono ?_; rintro e X1 ⟨b1, g1, rfl, hmk⟩; have HM : Hid (Mk _ X1 b1 g1 (i + r)) := hmk; have q1 : X1.cell? ⟨bA, 0, none⟩ = some (.slice (some ⟨gA, 0, none⟩) i i) := k1_of (W := w.drew) hA0 hmk.2.2.2; have q2 : X1.cell? ⟨bB, 0, none⟩ = some (.slice (some ⟨gB, 0, none⟩) r r) := k1_of (W := w.drew) hB0 hmk.2.2.2; clear hmk))
    all_goals
      go_wp2_with fail
      go_meet
      exact ⟨_, _, _, rfl, ⟨HM.out.1, HM.out.2.1, HM.out.2.2.1, ((Below.refl _ _).drew : Below w.heap.size w w.drew).trans HM.out.2.2.2⟩, by simp⟩
  case rest =>
    obtain ⟨b, g, R0, rfl, HB0⟩ := hcut
    have HB : Hid (Bld w wc b g (i + r) R0) := HB0.out.1
    obtain ⟨R1, R2, R3, ⟨e1, q1⟩, ⟨e2, q2⟩, ⟨e3, q3⟩, e4⟩ := HPR.out R0 HB0.out.2
    have E1 : Hid (splice R0 0 ka = R1) := e1
    have E2 : Hid (splice R1 (i + r) va = R2) := e2
    have E3 : Hid (splice R2 i kb = R3) := e3
    have E4 : Hid (splice R3 (i + r + i) vb = (ka ++ kb) ++ (va ++ vb)) := e4
    have Q0 : Hid (R0.length = 2 * (i + r)) := HB0.out.2
    have Q1 : Hid (R1.length = 2 * (i + r)) := q1
    have Q2 : Hid (R2.length = 2 * (i + r)) := q2
    have Q3 : Hid (R3.length = 2 * (i + r)) := q3
    clear HB0 HPR e1 e2 e3 e4 q1 q2 q3 HC hA0 hA2 hB0
    have hir2 : (i : Int) ≤ (i : Int) + (r : Int) := by omega
    have NG : Hid (b ≠ g ∧ bA ≠ g) := HB.out.apart HA.out
    have NG2 : Hid (b ≠ g ∧ bB ≠ g) := HB.out.apart HBn.out
    have k0 : wc.cell? ⟨bA, 0, none⟩ = some (.slice (some ⟨gA, 0, none⟩) i i) := (HA.out.below HB.out.2.2.2).c0
    have m0 : wc.cell? ⟨b, 0, none⟩ = some (.slice (some ⟨g, 0, none⟩) (i + r) (i + r)) := HB.out.1.1.c0
    go_upto_region 3 with (fail)
    go_cut [34] from 26 to 34 (fun _ wx => Hid (Bld w wx b g (i + r) R1))
    case first =>
      go_region_held3 (fun w' => w'.cell? ⟨b, 0, none⟩ = some (.slice (some ⟨g, 0, none⟩) (i + r) (i + r)) ∧ w'.cell? ⟨bA, 0, none⟩ = some (.slice (some ⟨gA, 0, none⟩) i i)) (go_keep) ((refine step_copy_keep rfl (.tmp 29) (.tmp 33) 35 35 rfl 22 Ybaf.underlying35 size22 (some ⟨g, 0, none⟩) (some ⟨gA, 0, none⟩) (i + r) (i + r) i i (by simp [Act.eval]) (by simp [Act.eval]) g 0 R0 22 (by exact HB.out.1.2.1) ka (by rw [LA.out]; exact (Nat.min_eq_left (by omega)).symm) (fun h0 => ⟨rfl, RA.out.src HB.out.2.2.2.drew h0⟩) (by rw [LA.out, Q0.out]; omega) SA.out ?_; intro X1 hr1 hk1; have qm0 : X1.cell? ⟨b, 0, none⟩ = some (.slice (some ⟨g, 0, none⟩) (i + r) (i + r)) := hk1.out.at NG.out.1 m0; have qk0 : X1.cell? ⟨bA, 0, none⟩ = some (.slice (some ⟨gA, 0, none⟩) i i) := hk1.out.at NG.out.2 k0))
      all_goals
        go_wp2_with fail
        go_meet
        rw [E1.out] at hr1; exact HB.out.next hk1.out hr1.out (by rw [Q1.out, Q0.out])
    case rest =>
      have HB1 : Hid (Bld w wc b g (i + r) R1) := hcut
      clear hcut k0 m0 HB E1
      have k0 : wc.cell? ⟨bA, 1, none⟩ = some (.slice (some ⟨gA, i, none⟩) i i) := (HA.out.below HB1.out.2.2.2).c1
      have m0 : wc.cell? ⟨b, 1, none⟩ = some (.slice (some ⟨g, i + r, none⟩) (i + r) (i + r)) := HB1.out.1.1.c1
      go_upto_region 4 with (fail)
      go_cut [43] from 35 to 43 (fun _ wx => Hid (Bld w wx b g (i + r) R2))
      case first =>
        go_region_held3 (fun w' => w'.cell? ⟨b, 1, none⟩ = some (.slice (some ⟨g, i + r, none⟩) (i + r) (i + r)) ∧ w'.cell? ⟨bA, 1, none⟩ = some (.slice (some ⟨gA, i, none⟩) i i)) (go_keep) ((refine step_copy_keep rfl (.tmp 38) (.tmp 42) 35 35 rfl 22 Ybaf.underlying35 size22 (some ⟨g, i + r, none⟩) (some ⟨gA, i, none⟩) (i + r) (i + r) i i (by simp [Act.eval]) (by simp [Act.eval]) g (i + r) R1 22 (by exact HB1.out.1.2.1) va (by rw [LC.out]; exact (Nat.min_eq_left (by omega)).symm) (fun h0 => ⟨rfl, RC.out.src HB1.out.2.2.2.drew h0⟩) (by rw [LC.out, Q1.out]; omega) SC.out ?_; intro X1 hr1 hk1; have qm0 : X1.cell? ⟨b, 1, none⟩ = some (.slice (some ⟨g, i + r, none⟩) (i + r) (i + r)) := hk1.out.at NG.out.1 m0; have qk0 : X1.cell? ⟨bA, 1, none⟩ = some (.slice (some ⟨gA, i, none⟩) i i) := hk1.out.at NG.out.2 k0))
        all_goals
          go_wp2_with fail
          go_meet
          rw [E2.out] at hr1; exact HB1.out.next hk1.out hr1.out (by rw [Q2.out, Q1.out])
      case rest =>
        have HB2 : Hid (Bld w wc b g (i + r) R2) := hcut
        clear hcut k0 m0 HB1 E2
        have k0 : wc.cell? ⟨bA, 0, none⟩ = some (.slice (some ⟨gA, 0, none⟩) i i) := (HA.out.below HB2.out.2.2.2).c0
        have k9 : wc.cell? ⟨bB, 0, none⟩ = some (.slice (some ⟨gB, 0, none⟩) r r) := (HBn.out.below HB2.out.2.2.2).c0
        have m0 : wc.cell? ⟨b, 0, none⟩ = some (.slice (some ⟨g, 0, none⟩) (i + r) (i + r)) := HB2.out.1.1.c0
        obtain ⟨dp, hdp⟩ : ∃ dp : Option Addr, (if r = 0 then some ⟨g, 0, none⟩ else some ⟨g, i, none⟩) = dp := ⟨_, rfl⟩
        go_upto_region 5 with (fail)
        go_cut [58] from 44 to 58 (fun _ wx => Hid (Bld w wx b g (i + r) R3))
        case first =>
          go_region_held3 (fun w' => w'.cell? ⟨b, 0, none⟩ = some (.slice (some ⟨g, 0, none⟩) (i + r) (i + r)) ∧ w'.cell? ⟨bA, 0, none⟩ = some (.slice (some ⟨gA, 0, none⟩) i i) ∧ w'.cell? ⟨bB, 0, none⟩ = some (.slice (some ⟨gB, 0, none⟩) r r)) (go_keep) ((refine step_copy_keep rfl (.tmp 53) (.tmp 57) 35 35 rfl 22 Ybaf.underlying35 size22 dp (some ⟨gB, 0, none⟩) r r r r (by simp [Act.eval]) (by simp [Act.eval]) g i R2 22 (by exact HB2.out.1.2.1) kb (by rw [LB.out]; simp) (fun h0 => ⟨by rw [← hdp, if_neg (by have := LB.out; omega)], RB.out.src HB2.out.2.2.2.drew h0⟩) (by rw [LB.out, Q2.out]; omega) SB.out ?_; intro X1 hr1 hk1; have qm0 : X1.cell? ⟨b, 0, none⟩ = some (.slice (some ⟨g, 0, none⟩) (i + r) (i + r)) := hk1.out.at NG.out.1 m0; have qk0 : X1.cell? ⟨bA, 0, none⟩ = some (.slice (some ⟨gA, 0, none⟩) i i) := hk1.out.at NG.out.2 k0; have qk9 : X1.cell? ⟨bB, 0, none⟩ = some (.slice (some ⟨gB, 0, none⟩) r r) := hk1.out.at NG2.out.2 k9))
          all_goals
            go_wp2_with fail
            go_meet
            rw [E3.out] at hr1; exact HB2.out.next hk1.out hr1.out (by rw [Q3.out, Q2.out])
        case rest =>
          have HB3 : Hid (Bld w wc b g (i + r) R3) := hcut
          clear hcut k0 m0 k9 HB2 E3 hdp dp
          have k0 : wc.cell? ⟨bA, 1, none⟩ = some (.slice (some ⟨gA, i, none⟩) i i) := (HA.out.below HB3.out.2.2.2).c1
          have k9 : wc.cell? ⟨bB, 1, none⟩ = some (.slice (some ⟨gB, r, none⟩) r r) := (HBn.out.below HB3.out.2.2.2).c1
          have m0 : wc.cell? ⟨b, 1, none⟩ = some (.slice (some ⟨g, i + r, none⟩) (i + r) (i + r)) := HB3.out.1.1.c1
          obtain ⟨dp, hdp⟩ : ∃ dp : Option Addr, (if r = 0 then some ⟨g, i + r, none⟩ else some ⟨g, i + r + i, none⟩) = dp := ⟨_, rfl⟩
          go_upto_region 6 with (fail)
          go_cut [73] from 59 to 73 (fun _ wx => Hid (Bld w wx b g (i + r) ((ka ++ kb) ++ (va ++ vb))))
          case first =>
            go_region_held3 (fun w' => w'.cell? ⟨b, 1, none⟩ = some (.slice (some ⟨g, i + r, none⟩) (i + r) (i + r)) ∧ w'.cell? ⟨bA, 1, none⟩ = some (.slice (some ⟨gA, i, none⟩) i i) ∧ w'.cell? ⟨bB, 1, none⟩ = some (.slice (some ⟨gB, r, none⟩) r r)) (go_keep) ((refine step_copy_keep rfl (.tmp 68) (.tmp 72) 35 35 rfl 22 Ybaf.underlying35 size22 dp (some ⟨gB, r, none⟩) r r r r (by simp [Act.eval]) (by simp [Act.eval]) g (i + r + i) R3 22 (by exact HB3.out.1.2.1) vb (by rw [LD.out]; simp) (fun h0 => ⟨by rw [← hdp, if_neg (by have := LD.out; omega)], RD.out.src HB3.out.2.2.2.drew h0⟩) (by rw [LD.out, Q3.out]; omega) SD.out ?_; intro X1 hr1 hk1; have qm0 : X1.cell? ⟨b, 1, none⟩ = some (.slice (some ⟨g, i + r, none⟩) (i + r) (i + r)) := hk1.out.at NG.out.1 m0; have qk0 : X1.cell? ⟨bA, 1, none⟩ = some (.slice (some ⟨gA, i, none⟩) i i) := hk1.out.at NG.out.2 k0; have qk9 : X1.cell? ⟨bB, 1, none⟩ = some (.slice (some ⟨gB, r, none⟩) r r) := hk1.out.at NG2.out.2 k9))
            all_goals
              go_wp2_with fail
              go_meet
              rw [E4.out] at hr1; exact HB3.out.next hk1.out hr1.out (by have := LA.out; have := LB.out; have := LC.out; have := LD.out; have := Q3.out; simp; omega)
          case rest =>
            have HB4 : Hid (Bld w wc b g (i + r) ((ka ++ kb) ++ (va ++ vb))) := hcut
            clear hcut k0 m0 k9 HB3 E4 hdp dp
            go_wp2
            go_ret
            exact ⟨b, g, rfl, HB4.out⟩

end Go.Proofs.YbulkbgzmFmt
