/-
  CScript: 'put' at a leaf that does not hold the key.
-/
import Derived.Test.YbulkbgzmFmtCs8
import Derived.Deep.RegionHeld3
import Derived.Deep.CutRange
namespace Go.Proofs.YbulkbgzmFmt
open Go.RowKit Go.Stop
set_option linter.unusedVariables false

theorem getElem?_splice (L : List Value) (o : Nat) (cs : List Value) (j : Nat) (h : o + cs.length ≤ L.length) : (splice L o cs)[j]? = if j < o then L[j]? else if j < o + cs.length then cs[j - o]? else L[j]? := by
  unfold splice
  by_cases h1 : j < o
  · rw [if_pos h1, List.getElem?_append_left (by simp; omega), List.getElem?_take, if_pos h1]
  · rw [if_neg h1, List.getElem?_append_right (by simp; omega)]
    have hl : (L.take o).length = o := by simp; omega
    rw [hl]
    by_cases h2 : j < o + cs.length
    · rw [if_pos h2, List.getElem?_append_left (by omega)]
    · rw [if_neg h2, List.getElem?_append_right (by omega), List.getElem?_drop]
      congr 1; omega

theorem splice_mid (A M B M' : List Value) (o : Nat) (ho : A.length = o) (hm : M.length = M'.length) : splice (A ++ (M ++ B)) o M' = A ++ (M' ++ B) := by
  subst ho
  unfold splice
  rw [List.take_left' rfl, ← hm, ← List.drop_drop, List.drop_left' rfl, List.drop_left' rfl]
theorem set_mid (A B : List Value) (x y : Value) (o : Nat) (ho : A.length = o) : (A ++ (x :: B)).set o y = A ++ (y :: B) := by
  subst ho
  rw [List.set_append_right _ _ (Nat.le_refl _), Nat.sub_self]; rfl

/-- A row in six parts. -/
theorem six_parts (Z : List Value) (i r : Nat) (h : Z.length = 2 * (i + r + 1)) : ∃ za z zb zc z' zd, Z = za ++ (z :: (zb ++ (zc ++ (z' :: zd)))) ∧ za.length = i ∧ zb.length = r ∧ zc.length = i ∧ zd.length = r := by
  obtain ⟨za, Z1, rfl, h1⟩ : ∃ a b, Z = a ++ b ∧ a.length = i := ⟨Z.take i, Z.drop i, by simp, by simp; omega⟩
  simp only [List.length_append] at h
  obtain ⟨z, Z2, rfl⟩ : ∃ a b, Z1 = a :: b := by
    cases Z1 with
    | nil => simp at h; omega
    | cons a b => exact ⟨a, b, rfl⟩
  simp only [List.length_cons] at h
  obtain ⟨zb, Z3, rfl, h2⟩ : ∃ a b, Z2 = a ++ b ∧ a.length = r := ⟨Z2.take r, Z2.drop r, by simp, by simp; omega⟩
  simp only [List.length_append] at h
  obtain ⟨zc, Z4, rfl, h3⟩ : ∃ a b, Z3 = a ++ b ∧ a.length = i := ⟨Z3.take i, Z3.drop i, by simp, by simp; omega⟩
  simp only [List.length_append] at h
  obtain ⟨z', zd, rfl⟩ : ∃ a b, Z4 = a :: b := by
    cases Z4 with
    | nil => simp at h; omega
    | cons a b => exact ⟨a, b, rfl⟩
  simp only [List.length_cons] at h
  exact ⟨za, z, zb, zc, z', zd, rfl, h1, h2, h3, by omega⟩

theorem Bld.later {w X Y : World} {b g n : Nat} {cur : List Value} (h : Bld X Y b g n cur) (hb : Below w.heap.size w X) : Bld w Y b g n cur :=
  ⟨h.1, Nat.le_trans hb.size h.2.1, Nat.le_trans hb.size h.2.2.1, hb.trans (h.2.2.2.mono hb.size)⟩

theorem NewLeaf.rows {w : World} {b g n : Nat} {ks vs : List Value} (h : NewLeaf w b g n (ks ++ vs)) (hk : ks.length = n) : RowAt w (some ⟨g, 0, none⟩) ks ∧ RowAt w (some ⟨g, n, none⟩) vs := by
  obtain ⟨h1, h2, h3, _⟩ := h
  refine ⟨.inr ⟨g, 0, rfl, fun j v hj => ?_⟩, .inr ⟨g, n, rfl, fun j v hj => ?_⟩⟩
  · have hj' : j < ks.length := by
      rcases Nat.lt_or_ge j ks.length with h | h
      · exact h
      · rw [List.getElem?_eq_none h] at hj; cases hj
    simp only [World.cell?, h2, Nat.zero_add]
    rw [List.getElem?_toArray, List.getElem?_append_left hj']
    exact hj
  · simp only [World.cell?, h2]
    rw [List.getElem?_toArray, List.getElem?_append_right (by omega), hk, Nat.add_sub_cancel_left]
    exact hj

theorem RowAt.left {w : World} {a : Option Addr} {xs ys : List Value} (h : RowAt w a (xs ++ ys)) : RowAt w a xs := by
  have := h.take xs.length
  rwa [List.take_left' rfl] at this
theorem RowAt.right {w : World} {b o m : Nat} {xs ys : List Value} (h : RowAt w (some ⟨b, o, none⟩) (xs ++ ys)) (hm : xs.length = m) : RowAt w (some ⟨b, o + m, none⟩) ys := by
  subst hm
  have := h.drop xs.length
  rwa [List.drop_left' rfl] at this
theorem Sls.left {xs ys : List Value} (h : Sls (xs ++ ys)) : Sls xs := fun v hv => h v (List.mem_append_left _ hv)
theorem Sls.right {xs ys : List Value} (h : Sls (xs ++ ys)) : Sls ys := fun v hv => h v (List.mem_append_right _ hv)

theorem put_rows (Z ka kb va vb : List Value) (K V : Value) (i r : Nat) (hZ : Z.length = 2 * (i + r + 1)) (l1 : ka.length = i) (l2 : kb.length = r) (l3 : va.length = i) (l4 : vb.length = r) :
    ∃ R1 R2 R3 R4, (splice Z 0 ka = R1 ∧ R1.length = 2 * (i + r + 1)) ∧ (splice R1 (i + r + 1) va = R2 ∧ R2.length = 2 * (i + r + 1)) ∧ ((R2.set i K).set (i + r + 1 + i) V = R3 ∧ (R2.set (i + r + 1 + i) V).set i K = R3 ∧ R3.length = 2 * (i + r + 1)) ∧
      (splice R3 (i + 1) kb = R4 ∧ R4.length = 2 * (i + r + 1)) ∧ splice R4 (i + r + 1 + (i + 1)) vb = (ka ++ K :: kb) ++ (va ++ V :: vb) := by
  obtain ⟨za, z, zb, zc, z', zd, rfl, h1, h2, h3, h4⟩ := six_parts Z i r hZ
  refine ⟨ka ++ (z :: (zb ++ (zc ++ (z' :: zd)))), ka ++ (z :: (zb ++ (va ++ (z' :: zd)))), ka ++ (K :: (zb ++ (va ++ (V :: zd)))), ka ++ (K :: (kb ++ (va ++ (V :: zd)))), ⟨?_, ?_⟩, ⟨?_, ?_⟩, ⟨?_, ?_, ?_⟩, ⟨?_, ?_⟩, ?_⟩
  · simpa using splice_mid [] za (z :: (zb ++ (zc ++ (z' :: zd)))) ka 0 rfl (by omega)
  · simp; omega
  · simpa using splice_mid (ka ++ z :: zb) zc (z' :: zd) va (i + r + 1) (by simp; omega) (by omega)
  · simp; omega
  · have a := set_mid ka (zb ++ (va ++ (z' :: zd))) z K i l1
    have b := set_mid (ka ++ (K :: (zb ++ va))) zd z' V (i + r + 1 + i) (by simp; omega)
    rw [a]
    simpa using b
  · have a := set_mid ka (zb ++ (va ++ (V :: zd))) z K i l1
    have b := set_mid (ka ++ (z :: (zb ++ va))) zd z' V (i + r + 1 + i) (by simp; omega)
    simp only [List.append_assoc, List.cons_append] at b
    rw [b]
    exact a
  · simp; omega
  · simpa using splice_mid (ka ++ [K]) zb (va ++ (V :: zd)) kb (i + 1) (by simp; omega) (by omega)
  · simp; omega
  · simpa using splice_mid (ka ++ (K :: (kb ++ (va ++ [V])))) zd [] vb (i + r + 1 + (i + 1)) (by simp; omega) (by omega)

theorem Bld.cell {w X : World} {b g n j : Nat} {cur : List Value} (h : Bld w X b g n cur) (x : Value) : Bld w (X.setCell ⟨g, j, none⟩ x) b g n (cur.set j x) := by
  refine h.next (Keeps.cell _) ?_ (by simp)
  have h := heap_setCell_same X g j cur.toArray 22 x h.1.2.1
  rw [h, List.setIfInBounds_toArray]
theorem Bld.drew {w X : World} {b g n : Nat} {cur : List Value} (h : Bld w X b g n cur) : Bld w X.drew b g n cur := h.below ⟨rfl, rfl, rfl, Nat.le_refl _, fun _ _ => rfl⟩

theorem sls_mid {xs ys : List Value} {a : Option Addr} {n c : Nat} (h1 : Sls xs) (h2 : Sls ys) : Sls (xs ++ .slice a n c :: ys) := fun v hv => by
  rcases List.mem_append.1 hv with h | h
  · exact h1 v h
  · rcases List.mem_cons.1 h with rfl | h
    · rfl
    · exact h2 v h

theorem Keeps.at {g : Nat} {w w' : World} {b o : Nat} {v : Value} (h : Keeps g w w') (hb : b ≠ g) (hc : w.cell? ⟨b, o, none⟩ = some v) : w'.cell? ⟨b, o, none⟩ = some v := by
  rw [← hc]
  have e := h.2.2.2.2 b hb
  simp only [World.cell?]
  rw [e]
theorem Bld.apart {w X : World} {b g n b0 : Nat} {cur : List Value} {k v c : Value} (h : Bld w X b g n cur) (hN : NodeAt w b0 k v c) : b ≠ g ∧ b0 ≠ g := ⟨h.1.2.2.2, by have := lt_of_block hN; have := h.2.2.1; omega⟩

set_option maxRecDepth 100000 in
set_option maxHeartbeats 4000000 in
theorem put_new_q {w : World} {Q : Ending → World → Prop} {ak av : Option Addr} {b0 g0 i r nk ck nv cv : Nat} {ka kb va vb : List Value} {rv : Bool} (h : NewLeaf w b0 g0 (i + r) ((ka ++ kb) ++ (va ++ vb))) (l1 : ka.length = i) (l2 : kb.length = r) (l3 : va.length = i) (l4 : vb.length = r)
    (s1 : Sls (ka ++ kb)) (s2 : Sls (va ++ vb)) (hn : i + r ≤ 40)
    (hS : Calls Ybaf.prog 35 #[.slice (some ⟨g0, 0, none⟩) (i + r) (i + r), .slice ak nk ck] w fun e w' => e = .returned (.tuple #[.int .i64 (i : Nat), .bool false]) ∧ w' = w)
    (HQ : Hid (∀ e w',
      (∃ b g, e = .returned (.tuple #[.pointer (some ⟨b, 0, none⟩), .slice none 0 0, .pointer none]) ∧ i + r + 1 ≤ 32 ∧ Bld w w' b g (i + r + 1) ((ka ++ .slice ak nk ck :: kb) ++ (va ++ .slice av nv cv :: vb))) ∨
      (∃ b1 g1 b2 g2 kv m, e = .returned (.tuple #[.pointer (some ⟨b1, 0, none⟩), kv, .pointer (some ⟨b2, 0, none⟩)]) ∧ 32 < i + r + 1 ∧ m = (if rv = true ∧ r = 0 then i + r else (i + r + 1) / 2) ∧ (ka ++ .slice ak nk ck :: kb)[m]? = some kv ∧
        Bld w w' b1 g1 m ((ka ++ .slice ak nk ck :: kb).take m ++ (va ++ .slice av nv cv :: vb).take m) ∧ Bld w w' b2 g2 (i + r + 1 - m) ((ka ++ .slice ak nk ck :: kb).drop m ++ (va ++ .slice av nv cv :: vb).drop m)) → Q e w')) :
    Calls Ybaf.prog 31 #[.pointer (some ⟨b0, 0, none⟩), .slice ak nk ck, .slice av nv cv, .bool rv] w Q := by

  obtain ⟨hrk, hrv⟩ := h.rows (by simp; omega)
  have n1 := nil89
  have h0 := h.1.c0
  have h2 := h.1.c2
  have HW0 : Hid (NodeAt w b0 (.slice (some ⟨g0, 0, none⟩) (i + r) (i + r)) (.slice (some ⟨g0, i + r, none⟩) (i + r) (i + r)) (.slice none 0 0)) := h.1
  have RA : Hid (RowAt w (some ⟨g0, 0, none⟩) ka) := hrk.left
  have RB : Hid (RowAt w (some ⟨g0, i, none⟩) kb) := by have := hrk.right l1; rwa [Nat.zero_add] at this
  have RC : Hid (RowAt w (some ⟨g0, i + r, none⟩) va) := hrv.left
  have RD : Hid (RowAt w (some ⟨g0, i + r + i, none⟩) vb) := hrv.right l3
  have SA : Hid (Sls ka) := s1.left
  have SB : Hid (Sls kb) := s1.right
  have SC : Hid (Sls va) := s2.left
  have SD : Hid (Sls vb) := s2.right
  have LA : Hid (ka.length = i) := l1
  have LB : Hid (kb.length = r) := l2
  have LC : Hid (va.length = i) := l3
  have LD : Hid (vb.length = r) := l4
  have HS : Hid (Calls Ybaf.prog 35 #[.slice (some ⟨g0, 0, none⟩) (i + r) (i + r), .slice ak nk ck] w fun e w' => e = .returned (.tuple #[.int .i64 (i : Nat), .bool false]) ∧ w' = w) := hS
  have HC : Hid (∀ (k : Int) (X : World), k = ((i + r + 1 : Nat) : Int) → Calls Ybaf.prog 30 #[.int .i64 k] X fun e Y => ∃ b g, e = .returned (.pointer (some ⟨b, 0, none⟩)) ∧ Mk X Y b g (i + r + 1)) := fun k X hk => by
    subst hk
    exact (newLeaf_any (i + r + 1) (by omega) X).mono fun e Y ⟨b, g, h1, h2, h3, h4, h5⟩ => ⟨b, g, h1, h2, h3, h4, h5⟩
  have HPR : Hid (∀ Z : List Value, Z.length = 2 * (i + r + 1) → ∃ R1 R2 R3 R4, (splice Z 0 ka = R1 ∧ R1.length = 2 * (i + r + 1)) ∧ (splice R1 (i + r + 1) va = R2 ∧ R2.length = 2 * (i + r + 1)) ∧ ((R2.set i (.slice ak nk ck)).set (i + r + 1 + i) (.slice av nv cv) = R3 ∧ (R2.set (i + r + 1 + i) (.slice av nv cv)).set i (.slice ak nk ck) = R3 ∧ R3.length = 2 * (i + r + 1)) ∧
        (splice R3 (i + 1) kb = R4 ∧ R4.length = 2 * (i + r + 1)) ∧ splice R4 (i + r + 1 + (i + 1)) vb = (ka ++ .slice ak nk ck :: kb) ++ (va ++ .slice av nv cv :: vb)) := fun Z hZ => put_rows Z ka kb va vb (.slice ak nk ck) (.slice av nv cv) i r hZ l1 l2 l3 l4
  clear h hrk hrv s1 s2 l1 l2 l3 l4 hS
  have hw1 : IntKind.i64.wrap ((i : Int) + (r : Int) + 1) = (i : Int) + (r : Int) + 1 := IntWalk.i64_in _ ⟨by omega, by omega⟩
  go_enter Ybaf.func31, Ybaf.ntmps31
  go_wp2_with fail
  refine HS.out.mono ?_
  rintro e w1 ⟨rfl, hw⟩
  have hw := hw.symm
  subst hw
  clear HS
  go_wp2_with fail
  refine (HC.out _ _ (by omega)).mono ?_
  rintro e X ⟨b, g, rfl, hmk⟩
  obtain ⟨R0, hR0, hB0⟩ : ∃ Z : List Value, Z.length = 2 * (i + r + 1) ∧ Bld w X b g (i + r + 1) Z := ⟨_, by simp, hmk⟩
  have HB : Hid (Bld w X b g (i + r + 1) R0) := hB0
  obtain ⟨R1, R2, R3, R4, ⟨e1, q1⟩, ⟨e2, q2⟩, ⟨e3, e3', q3⟩, ⟨e4, q4⟩, e5⟩ := HPR.out R0 hR0
  have E1 : Hid (splice R0 0 ka = R1) := e1
  have E2 : Hid (splice R1 (i + r + 1) va = R2) := e2
  have E3 : Hid ((R2.set i (.slice ak nk ck)).set (i + r + 1 + i) (.slice av nv cv) = R3) := e3
  have E3' : Hid ((R2.set (i + r + 1 + i) (.slice av nv cv)).set i (.slice ak nk ck) = R3) := e3'
  have E4 : Hid (splice R3 (i + 1) kb = R4) := e4
  have E5 : Hid (splice R4 (i + r + 1 + (i + 1)) vb = (ka ++ .slice ak nk ck :: kb) ++ (va ++ .slice av nv cv :: vb)) := e5
  have Q0 : Hid (R0.length = 2 * (i + r + 1)) := hR0
  have Q1 : Hid (R1.length = 2 * (i + r + 1)) := q1
  have Q2 : Hid (R2.length = 2 * (i + r + 1)) := q2
  have Q3 : Hid (R3.length = 2 * (i + r + 1)) := q3
  have Q4 : Hid (R4.length = 2 * (i + r + 1)) := q4
  clear hmk hB0 HPR e1 e2 e3 e3' e4 e5 q1 q2 q3 q4 hR0 HC h0 h2
  have hir : (i : Int) ≤ (i : Int) + (r : Int) := by omega
  have NG : Hid (b ≠ g ∧ b0 ≠ g) := HB.out.apart HW0.out
  have k0 : X.cell? ⟨b0, 0, none⟩ = some (.slice (some ⟨g0, 0, none⟩) (i + r) (i + r)) := (HW0.out.below HB.out.2.2.2).c0
  have m0 : X.cell? ⟨b, 0, none⟩ = some (.slice (some ⟨g, 0, none⟩) (i + r + 1) (i + r + 1)) := HB.out.1.1.c0
  go_upto_region 10 with (fail)
  go_cut [63] from 53 to 63 (fun _ wx => Hid (Bld w wx b g (i + r + 1) R1))
  case first =>
    go_region_held3 (fun w' => w'.cell? ⟨b, 0, none⟩ = some (.slice (some ⟨g, 0, none⟩) (i + r + 1) (i + r + 1)) ∧ w'.cell? ⟨b0, 0, none⟩ = some (.slice (some ⟨g0, 0, none⟩) (i + r) (i + r))) (go_keep) ((refine step_copy_keep rfl (.tmp 56) (.tmp 62) 35 35 rfl 22 Ybaf.underlying35 size22 (some ⟨g, 0, none⟩) (some ⟨g0, 0, none⟩) (i + r + 1) (i + r + 1) i (i + r) (by simp [Act.eval]) (by simp [Act.eval]) g 0 R0 22 (by exact HB.out.1.2.1) ka (by rw [LA.out]; exact (Nat.min_eq_left (by omega)).symm) (fun h0 => ⟨rfl, RA.out.src HB.out.2.2.2.drew h0⟩) (by rw [LA.out, Q0.out]; omega) SA.out ?_; intro X1 hr1 hk1; have qm0 : X1.cell? ⟨b, 0, none⟩ = some (.slice (some ⟨g, 0, none⟩) (i + r + 1) (i + r + 1)) := hk1.out.at NG.out.1 m0; have qk0 : X1.cell? ⟨b0, 0, none⟩ = some (.slice (some ⟨g0, 0, none⟩) (i + r) (i + r)) := hk1.out.at NG.out.2 k0))
    all_goals
      go_wp2_with fail
      go_meet
      rw [E1.out] at hr1; exact HB.out.next hk1.out hr1.out (by rw [Q1.out, Q0.out])
  case rest =>
    have HB1 : Hid (Bld w wc b g (i + r + 1) R1) := hcut
    clear hcut k0 m0 HB E1
    have k0 : wc.cell? ⟨b0, 1, none⟩ = some (.slice (some ⟨g0, i + r, none⟩) (i + r) (i + r)) := (HW0.out.below HB1.out.2.2.2).c1
    have m0 : wc.cell? ⟨b, 1, none⟩ = some (.slice (some ⟨g, i + r + 1, none⟩) (i + r + 1) (i + r + 1)) := HB1.out.1.1.c1
    go_upto_region 11 with (fail)
    go_cut [74] from 64 to 74 (fun _ wx => Hid (Bld w wx b g (i + r + 1) R2))
    case first =>
      go_region_held3 (fun w' => w'.cell? ⟨b, 1, none⟩ = some (.slice (some ⟨g, i + r + 1, none⟩) (i + r + 1) (i + r + 1)) ∧ w'.cell? ⟨b0, 1, none⟩ = some (.slice (some ⟨g0, i + r, none⟩) (i + r) (i + r))) (go_keep) ((refine step_copy_keep rfl (.tmp 67) (.tmp 73) 35 35 rfl 22 Ybaf.underlying35 size22 (some ⟨g, i + r + 1, none⟩) (some ⟨g0, i + r, none⟩) (i + r + 1) (i + r + 1) i (i + r) (by simp [Act.eval]) (by simp [Act.eval]) g (i + r + 1) R1 22 (by exact HB1.out.1.2.1) va (by rw [LC.out]; exact (Nat.min_eq_left (by omega)).symm) (fun h0 => ⟨rfl, RC.out.src HB1.out.2.2.2.drew h0⟩) (by rw [LC.out, Q1.out]; omega) SC.out ?_; intro X1 hr1 hk1; have qm0 : X1.cell? ⟨b, 1, none⟩ = some (.slice (some ⟨g, i + r + 1, none⟩) (i + r + 1) (i + r + 1)) := hk1.out.at NG.out.1 m0; have qk0 : X1.cell? ⟨b0, 1, none⟩ = some (.slice (some ⟨g0, i + r, none⟩) (i + r) (i + r)) := hk1.out.at NG.out.2 k0))
      all_goals
        go_wp2_with fail
        go_meet
        rw [E2.out] at hr1; exact HB1.out.next hk1.out hr1.out (by rw [Q2.out, Q1.out])
    case rest =>
      have HB2 : Hid (Bld w wc b g (i + r + 1) R2) := hcut
      clear hcut k0 m0 HB1 E2
      have m0 : wc.cell? ⟨b, 0, none⟩ = some (.slice (some ⟨g, 0, none⟩) (i + r + 1) (i + r + 1)) := HB2.out.1.1.c0
      have m1 : wc.cell? ⟨b, 1, none⟩ = some (.slice (some ⟨g, i + r + 1, none⟩) (i + r + 1) (i + r + 1)) := HB2.out.1.1.c1
      have c1 : ∃ o1, wc.cell? ⟨g, i, none⟩ = some o1 := by
        have h := HB2.out.1.2.1
        have hl := Q2.out
        exact ⟨R2[i]'(by omega), by simp only [World.cell?, h]; rw [List.getElem?_toArray, List.getElem?_eq_getElem (by omega)]; rfl⟩
      obtain ⟨o1, c1⟩ := c1
      have f1 : wc.frozen? ⟨g, i, none⟩ = false := by have h := HB2.out.1.2.1; simp [World.frozen?, h]
      have c2 : ∃ o2, wc.cell? ⟨g, i + r + 1 + i, none⟩ = some o2 := by
        have h := HB2.out.1.2.1
        have hl := Q2.out
        exact ⟨R2[i + r + 1 + i]'(by omega), by simp only [World.cell?, h]; rw [List.getElem?_toArray, List.getElem?_eq_getElem (by omega)]; rfl⟩
      obtain ⟨o2, c2⟩ := c2
      have f2 : wc.frozen? ⟨g, i + r + 1 + i, none⟩ = false := by have h := HB2.out.1.2.1; simp [World.frozen?, h]
      have hlt : (i : Int) < (i : Int) + (r : Int) + 1 := by omega
      have HB3 : Hid (Bld w ((wc.setCell ⟨g, i, none⟩ (.slice ak nk ck)).setCell ⟨g, i + r + 1 + i, none⟩ (.slice av nv cv)).drew b g (i + r + 1) R3) := by
        have h := ((HB2.out.cell (j := i) (.slice ak nk ck)).cell (j := i + r + 1 + i) (.slice av nv cv)).drew
        rw [E3.out] at h
        exact h
      clear E3 E3'
      go_upto_region 12 with (fail)
      go_cut [87] from 75 to 88 (fun _ wx => Hid (Bld w wx b g (i + r + 1) R3))
      case first =>
        go_region
        all_goals
          go_wp2_with fail
          go_meet
          exact HB3.out
      case rest =>
        have HB4 : Hid (Bld w wc b g (i + r + 1) R3) := hcut
        clear hcut HB2 HB3 m0 m1 c1 f1 c2 f2
        have hw2 : IntKind.i64.wrap ((i : Int) + 1) = (i : Int) + 1 := IntWalk.i64_in _ ⟨by omega, by omega⟩
        have hz1 : (0 : Int) ≤ (i : Int) + 1 := by omega
        have ht2 : ((i : Int) + 1).toNat = i + 1 := by omega
        have hir1 : (i : Int) + 1 ≤ (i : Int) + (r : Int) + 1 := by omega
        have k0 : wc.cell? ⟨b0, 0, none⟩ = some (.slice (some ⟨g0, 0, none⟩) (i + r) (i + r)) := (HW0.out.below HB4.out.2.2.2).c0
        have m0 : wc.cell? ⟨b, 0, none⟩ = some (.slice (some ⟨g, 0, none⟩) (i + r + 1) (i + r + 1)) := HB4.out.1.1.c0
        obtain ⟨dp, hdp⟩ : ∃ dp : Option Addr, (if r = 0 then some ⟨g, 0, none⟩ else some ⟨g, i + 1, none⟩) = dp := ⟨_, rfl⟩
        obtain ⟨sp, hsp⟩ : ∃ sp : Option Addr, (if r = 0 then some ⟨g0, 0, none⟩ else some ⟨g0, i, none⟩) = sp := ⟨_, rfl⟩
        go_upto_region 13 with (fail)
        go_cut [102] from 89 to 102 (fun _ wx => Hid (Bld w wx b g (i + r + 1) R4))
        case first =>
          go_region_held3 (fun w' => w'.cell? ⟨b, 0, none⟩ = some (.slice (some ⟨g, 0, none⟩) (i + r + 1) (i + r + 1)) ∧ w'.cell? ⟨b0, 0, none⟩ = some (.slice (some ⟨g0, 0, none⟩) (i + r) (i + r))) (go_keep) ((refine step_copy_keep rfl (.tmp 95) (.tmp 101) 35 35 rfl 22 Ybaf.underlying35 size22 dp sp r r r r (by simp [Act.eval]) (by simp [Act.eval]) g (i + 1) R3 22 (by exact HB4.out.1.2.1) kb (by rw [LB.out]; simp) (fun h0 => ⟨by rw [← hdp, if_neg (by have := LB.out; omega)], by rw [← hsp, if_neg (by have := LB.out; omega)]; exact RB.out.src HB4.out.2.2.2.drew h0⟩) (by rw [LB.out, Q3.out]; omega) SB.out ?_; intro X1 hr1 hk1; have qm0 : X1.cell? ⟨b, 0, none⟩ = some (.slice (some ⟨g, 0, none⟩) (i + r + 1) (i + r + 1)) := hk1.out.at NG.out.1 m0; have qk0 : X1.cell? ⟨b0, 0, none⟩ = some (.slice (some ⟨g0, 0, none⟩) (i + r) (i + r)) := hk1.out.at NG.out.2 k0))
          all_goals
            go_wp2_with fail
            go_meet
            rw [E4.out] at hr1; exact HB4.out.next hk1.out hr1.out (by rw [Q4.out, Q3.out])
        case rest =>
          have HB5 : Hid (Bld w wc b g (i + r + 1) R4) := hcut
          clear hcut HB4 k0 m0 hdp hsp dp sp
          have k0 : wc.cell? ⟨b0, 1, none⟩ = some (.slice (some ⟨g0, i + r, none⟩) (i + r) (i + r)) := (HW0.out.below HB5.out.2.2.2).c1
          have m0 : wc.cell? ⟨b, 1, none⟩ = some (.slice (some ⟨g, i + r + 1, none⟩) (i + r + 1) (i + r + 1)) := HB5.out.1.1.c1
          obtain ⟨dp, hdp⟩ : ∃ dp : Option Addr, (if r = 0 then some ⟨g, i + r + 1, none⟩ else some ⟨g, i + r + 1 + (i + 1), none⟩) = dp := ⟨_, rfl⟩
          obtain ⟨sp, hsp⟩ : ∃ sp : Option Addr, (if r = 0 then some ⟨g0, i + r, none⟩ else some ⟨g0, i + r + i, none⟩) = sp := ⟨_, rfl⟩
          go_upto_region 14 with (fail)
          go_cut [116] from 103 to 116 (fun _ wx => Hid (Bld w wx b g (i + r + 1) ((ka ++ .slice ak nk ck :: kb) ++ (va ++ .slice av nv cv :: vb))))
          case first =>
            go_region_held3 (fun w' => w'.cell? ⟨b, 1, none⟩ = some (.slice (some ⟨g, i + r + 1, none⟩) (i + r + 1) (i + r + 1)) ∧ w'.cell? ⟨b0, 1, none⟩ = some (.slice (some ⟨g0, i + r, none⟩) (i + r) (i + r))) (go_keep) ((refine step_copy_keep rfl (.tmp 109) (.tmp 115) 35 35 rfl 22 Ybaf.underlying35 size22 dp sp r r r r (by simp [Act.eval]) (by simp [Act.eval]) g (i + r + 1 + (i + 1)) R4 22 (by exact HB5.out.1.2.1) vb (by rw [LD.out]; simp) (fun h0 => ⟨by rw [← hdp, if_neg (by have := LD.out; omega)], by rw [← hsp, if_neg (by have := LD.out; omega)]; exact RD.out.src HB5.out.2.2.2.drew h0⟩) (by rw [LD.out, Q4.out]; omega) SD.out ?_; intro X1 hr1 hk1; have qm0 : X1.cell? ⟨b, 1, none⟩ = some (.slice (some ⟨g, i + r + 1, none⟩) (i + r + 1) (i + r + 1)) := hk1.out.at NG.out.1 m0; have qk0 : X1.cell? ⟨b0, 1, none⟩ = some (.slice (some ⟨g0, i + r, none⟩) (i + r) (i + r)) := hk1.out.at NG.out.2 k0))
            all_goals
              go_wp2_with fail
              go_meet
              rw [E5.out] at hr1; exact HB5.out.next hk1.out hr1.out (by have := LA.out; have := LB.out; have := LC.out; have := LD.out; have := Q4.out; simp; omega)
          case rest =>
            have HB6x : Hid (Bld w wc b g (i + r + 1) ((ka ++ .slice ak nk ck :: kb) ++ (va ++ .slice av nv cv :: vb))) := hcut
            clear hcut HB5 k0 m0 hdp hsp dp sp E4 E5 RA RB RC RD Q0 Q1 Q2 Q3 Q4
            have k0 : wc.cell? ⟨b0, 0, none⟩ = some (.slice (some ⟨g0, 0, none⟩) (i + r) (i + r)) := (HW0.out.below HB6x.out.2.2.2).c0
            obtain ⟨ap, hap⟩ : ∃ ap, decide (r = 0) = ap := ⟨_, rfl⟩
            have HAP : Hid (decide (r = 0) = ap) := hap
            go_upto_region 15 with (fail)
            go_cut [12] from 117 to 123 (fun v wx => v = .bool ap ∧ Hid (Bld w wx b g (i + r + 1) ((ka ++ .slice ak nk ck :: kb) ++ (va ++ .slice av nv cv :: vb))))
            case first =>
              go_wp2_with fail
              go_meet
              exact ⟨by rw [← hap, Value.bool.injEq, Bool.eq_iff_iff, beq_iff_eq, decide_eq_true_eq]; omega, HB6x.out⟩
            case rest =>
              obtain ⟨rfl, HB6⟩ := hcut
              have LK : (ka ++ Value.slice ak nk ck :: kb).length = i + r + 1 := by have := LA.out; have := LB.out; simp; omega
              have LV : (va ++ Value.slice av nv cv :: vb).length = i + r + 1 := by have := LC.out; have := LD.out; simp; omega
              have hLf : LeafV wc (.pointer (some ⟨b, 0, none⟩)) (ka ++ .slice ak nk ck :: kb) (va ++ .slice av nv cv :: vb) := HB6.out.1.leafV LK LV
              have HOv : Hid (Calls Ybaf.prog 40 #[.pointer (some ⟨b, 0, none⟩)] wc fun e w' => e = .returned (.bool (decide (32 < i + r + 1))) ∧ w' = wc) := by
                have := over_leaf hLf
                rw [LK] at this
                exact this
              have HSz : Hid (Calls Ybaf.prog 41 #[.pointer (some ⟨b, 0, none⟩)] wc fun e w' => e = .returned (.int .i64 ((i : Int) + (r : Int) + 1)) ∧ w' = wc) := by
                have := size_leaf hLf
                rw [LK] at this
                exact this
              have HSp : Hid (∀ (k : Int) (m : Nat), k = (m : Int) → m < i + r + 1 → Calls Ybaf.prog 42 #[.pointer (some ⟨b, 0, none⟩), .int .i64 k] wc fun e w' => ∃ b1 g1 b2 g2 kv, e = .returned (.tuple #[.pointer (some ⟨b1, 0, none⟩), kv, .pointer (some ⟨b2, 0, none⟩)]) ∧ (ka ++ .slice ak nk ck :: kb)[m]? = some kv ∧
                  Bld wc w' b1 g1 m ((ka ++ .slice ak nk ck :: kb).take m ++ (va ++ .slice av nv cv :: vb).take m) ∧ Bld wc w' b2 g2 (i + r + 1 - m) ((ka ++ .slice ak nk ck :: kb).drop m ++ (va ++ .slice av nv cv :: vb).drop m)) := fun k m hk hm => by
                subst hk
                have := split_leaf (m := m) hLf (sls_mid SA.out SB.out) (sls_mid SC.out SD.out) (by rw [LK]; omega) (by rw [LK]; exact hm)
                rw [LK] at this
                exact this
              clear HB6x k0 hap LK LV hLf SA SB SC SD LA LB LC LD
              have m2 : wc.cell? ⟨b, 2, none⟩ = some (.slice none 0 0) := HB6.out.1.1.c2
              have n2 := neqnil89
              have hwr : IntKind.i64.wrap ((i : Int) + (r : Int)) = (i : Int) + (r : Int) := IntWalk.i64_in _ ⟨by omega, by omega⟩
              go_wp2_with fail
              refine HOv.out.mono ?_
              rintro e w1 ⟨rfl, hw⟩
              have hw := hw.symm
              subst hw
              clear HOv
              by_cases hov : 32 < i + r + 1
              · rw [decide_eq_true hov]
                go_wp2_with fail
                refine HSz.out.mono ?_
                rintro e w1 ⟨rfl, hw⟩
                have hw := hw.symm
                subst hw
                cases rv with
                | false =>
                  go_wp2_with fail
                  refine (HSp.out _ ((i + r + 1) / 2) (by omega) (by omega)).mono ?_
                  rintro e w1 ⟨b1, g1, b2, g2, kv, rfl, hkv, hb1, hb2⟩
                  have HE : Hid (Q (.returned (.tuple #[.pointer (some ⟨b1, 0, none⟩), kv, .pointer (some ⟨b2, 0, none⟩)])) w1) := HQ.out _ _ (.inr ⟨b1, g1, b2, g2, kv, _, rfl, hov, by rw [if_neg (by simp)], hkv, hb1.later HB6.out.2.2.2, hb2.later HB6.out.2.2.2⟩)
                  clear hkv hb1 hb2 HSz HSp
                  go_wp2
                  go_ret3
                  exact HE.out
                | true =>
                  cases ap with
                  | false =>
                    go_wp2_with fail
                    refine (HSp.out _ ((i + r + 1) / 2) (by omega) (by omega)).mono ?_
                    rintro e w1 ⟨b1, g1, b2, g2, kv, rfl, hkv, hb1, hb2⟩
                    have HE : Hid (Q (.returned (.tuple #[.pointer (some ⟨b1, 0, none⟩), kv, .pointer (some ⟨b2, 0, none⟩)])) w1) := HQ.out _ _ (.inr ⟨b1, g1, b2, g2, kv, _, rfl, hov, by rw [if_neg (by have := of_decide_eq_false HAP.out; simp [this])], hkv, hb1.later HB6.out.2.2.2, hb2.later HB6.out.2.2.2⟩)
                    clear hkv hb1 hb2 HSz HSp
                    go_wp2
                    go_ret3
                    exact HE.out
                  | true =>
                    go_wp2_with fail
                    refine HSz.out.mono ?_
                    rintro e w1 ⟨rfl, hw⟩
                    have hw := hw.symm
                    subst hw
                    go_wp2_with fail
                    refine (HSp.out _ (i + r) (by omega) (by omega)).mono ?_
                    rintro e w1 ⟨b1, g1, b2, g2, kv, rfl, hkv, hb1, hb2⟩
                    have HE : Hid (Q (.returned (.tuple #[.pointer (some ⟨b1, 0, none⟩), kv, .pointer (some ⟨b2, 0, none⟩)])) w1) := HQ.out _ _ (.inr ⟨b1, g1, b2, g2, kv, _, rfl, hov, by rw [if_pos (by simpa using HAP.out)], hkv, hb1.later HB6.out.2.2.2, hb2.later HB6.out.2.2.2⟩)
                    clear hkv hb1 hb2 HSz HSp
                    go_wp2
                    go_ret3
                    exact HE.out
              · rw [decide_eq_false hov]
                have HE : Hid (Q (.returned (.tuple #[.pointer (some ⟨b, 0, none⟩), .slice none 0 0, .pointer none])) wc) := HQ.out _ _ (.inl ⟨b, g, rfl, by omega, HB6.out⟩)
                clear HSz HSp
                go_wp2
                go_ret3
                exact HE.out

theorem put_new {w : World} {ak av : Option Addr} {b0 g0 i r nk ck nv cv : Nat} {ka kb va vb : List Value} {rv : Bool} (h : NewLeaf w b0 g0 (i + r) ((ka ++ kb) ++ (va ++ vb))) (l1 : ka.length = i) (l2 : kb.length = r) (l3 : va.length = i) (l4 : vb.length = r)
    (s1 : Sls (ka ++ kb)) (s2 : Sls (va ++ vb)) (hn : i + r ≤ 40)
    (hS : Calls Ybaf.prog 35 #[.slice (some ⟨g0, 0, none⟩) (i + r) (i + r), .slice ak nk ck] w fun e w' => e = .returned (.tuple #[.int .i64 (i : Nat), .bool false]) ∧ w' = w) :
    Calls Ybaf.prog 31 #[.pointer (some ⟨b0, 0, none⟩), .slice ak nk ck, .slice av nv cv, .bool rv] w fun e w' =>
      (∃ b g, e = .returned (.tuple #[.pointer (some ⟨b, 0, none⟩), .slice none 0 0, .pointer none]) ∧ i + r + 1 ≤ 32 ∧ Bld w w' b g (i + r + 1) ((ka ++ .slice ak nk ck :: kb) ++ (va ++ .slice av nv cv :: vb))) ∨
      (∃ b1 g1 b2 g2 kv m, e = .returned (.tuple #[.pointer (some ⟨b1, 0, none⟩), kv, .pointer (some ⟨b2, 0, none⟩)]) ∧ 32 < i + r + 1 ∧ m = (if rv = true ∧ r = 0 then i + r else (i + r + 1) / 2) ∧ (ka ++ .slice ak nk ck :: kb)[m]? = some kv ∧
        Bld w w' b1 g1 m ((ka ++ .slice ak nk ck :: kb).take m ++ (va ++ .slice av nv cv :: vb).take m) ∧ Bld w w' b2 g2 (i + r + 1 - m) ((ka ++ .slice ak nk ck :: kb).drop m ++ (va ++ .slice av nv cv :: vb).drop m)) := by
  exact put_new_q h l1 l2 l3 l4 s1 s2 hn hS fun _ _ h => h

end Go.Proofs.YbulkbgzmFmt
