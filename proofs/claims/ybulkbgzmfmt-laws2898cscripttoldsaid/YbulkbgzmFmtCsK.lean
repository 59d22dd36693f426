/-
  CScript: 'insert' and 'get', told by the entries.
-/
import Derived.Test.YbulkbgzmFmtCsJ
namespace Go.Proofs.YbulkbgzmFmt
open Go.RowKit Go.Stop
set_option linter.unusedVariables false
attribute [local simp] kvs_app vvs_app kns_app cont_app odd_app kvs_cons vvs_cons kns_cons cont_cons odd_cons kvs_nil vvs_nil kns_nil cont_nil odd_nil kvs_len vvs_len kns_len
/-- What 'insert' hands back. -/
def InsPost (w : World) (L : List Ent) (k : Nat) (b : List UInt8) (e : Ending) (w' : World) : Prop := ∃ p' L', e = .returned (.pointer p') ∧ TreeE w' (.pointer p') L' ∧ Upd L L' k b ∧ Below w.heap.size w w'
def InsPost3 (w : World) (L : List Ent) (k : Nat) (b : List UInt8) (e : Ending) (w' : World) : Prop := ∃ p' L', e = .returned (.tuple #[.pointer p', .slice none 0 0, .pointer none]) ∧ TreeE w' (.pointer p') L' ∧ Upd L L' k b ∧ Below w.heap.size w w'

theorem InnerE.len {w : World} {p : Value} {S : List (Value × Nat)} {C : List (Value × List Ent)} (h : InnerE w p S C) : S.length + 1 = C.length := by
  obtain ⟨b, g, h, h1, h2, h3, h4⟩ := h
  exact h3
theorem LeafE.ptr {w : World} {p : Value} {E : List Ent} (h : LeafE w p E) : ∃ b, p = .pointer (some ⟨b, 0, none⟩) := by
  obtain ⟨b, g, h1, -⟩ := h
  exact ⟨b, h1⟩
theorem LeafE.node {w : World} {b : Nat} {E : List Ent} (h : LeafE w (.pointer (some ⟨b, 0, none⟩)) E) : ∃ k v c, NodeAt w b k v c := by
  obtain ⟨b', g, h1, h2, -⟩ := h
  simp only [Value.pointer.injEq, Option.some.injEq, Addr.mk.injEq, and_true] at h1
  subst h1
  exact ⟨_, _, _, h2.1⟩
theorem ptrs_sls {w : World} {C : List (Value × List Ent)} (h : ∀ c ∈ C, LeafE w c.1 c.2) : Sls (C.map (·.1)) := fun v hv => by
  obtain ⟨c, hc, rfl⟩ := List.mem_map.1 hv
  obtain ⟨b, hb⟩ := (h c hc).ptr
  rw [hb]; rfl
theorem seps_sls {w : World} {S : List (Value × Nat)} (h : ∀ s ∈ S, KeyAt w s.1 s.2) : Sls (S.map (·.1)) := fun v hv => by
  obtain ⟨s, hs, rfl⟩ := List.mem_map.1 hv
  obtain ⟨a, c, e, -⟩ := h s hs
  rw [e]; rfl
theorem shape_mid {C1 C2 : List (List Ent)} {c c' : List Ent} (h : Shape (C1 ++ c :: C2)) (h1 : c'.length ≤ 32) (h2 : 1 ≤ c'.length) (h3 : C2 ≠ [] → 16 ≤ c'.length) : Shape (C1 ++ c' :: C2) := by
  obtain ⟨a1, a2, a3⟩ := (shape_app C1 c C2).1 h
  exact (shape_app C1 c' C2).2 ⟨a1, ⟨h2, h1, h3⟩, a3⟩
theorem shape_two {C1 C2 : List (List Ent)} {c c1 c2 : List Ent} (h : Shape (C1 ++ c :: C2)) (h1 : 16 ≤ c1.length) (h2 : c1.length ≤ 32) (h3 : 1 ≤ c2.length) (h4 : c2.length ≤ 32) (h5 : C2 ≠ [] → 16 ≤ c2.length) : Shape (C1 ++ c1 :: c2 :: C2) := by
  obtain ⟨a1, a2, a3⟩ := (shape_app C1 c C2).1 h
  exact (shape_app C1 c1 (c2 :: C2)).2 ⟨a1, ⟨by omega, h2, fun _ => h1⟩, ⟨h3, h4, h5⟩, a3⟩

theorem put_innerE {w : World} {p kv vv : Value} {S : List (Value × Nat)} {C : List (Value × List Ent)} {k : Nat} {b : List UInt8} (hI : InnerE w p S C) (h2 : 2 ≤ C.length) (hO : (inter (sns S) (ces C)).Pairwise (· < ·)) (hSh : Shape (ces C)) (hkey : KeyAt w kv k) (hval : ValAt w vv b) :
    Calls Ybaf.prog 31 #[p, kv, vv, .bool true] w (InsPost3 w (flat C) k b) := by
  have h3 := inner_few hI hO hSh
  obtain ⟨b0, g0, h0, rfl, hN, hl, hS, hC⟩ := hI
  obtain ⟨S1, S2, C1, c, C2, rfl, rfl, l1, l2, hs1, hs2, hch⟩ := child_split hN hl hS hO (by omega) hkey
  obtain ⟨cp, cE⟩ := c
  have hLc : LeafE w cp cE := hC (cp, cE) (by simp)
  obtain ⟨bx, rfl⟩ := hLc.ptr
  rw [sns_app, ces_split, inter_split _ _ _ _ _ (by simpa [sns, ces] using l1)] at hO
  rw [ces_split] at hSh
  have hcs : Sorted cE := sorted_odd.2 (List.pairwise_append.1 (List.pairwise_append.1 hO).2.1).1
  obtain ⟨a1, a2, a3⟩ := (shape_app _ _ _).1 hSh
  have hsl1 := seps_sls hS
  have hsl2 := ptrs_sls hC
  have hlen : (C1 ++ (Value.pointer (some ⟨bx, 0, none⟩), cE) :: C2).length = C1.length + C2.length + 1 := by simp; omega
  rw [hlen] at hN h3
  rw [List.map_append] at hN hsl1
  rw [List.map_append, List.map_cons] at hN hsl2
  obtain ⟨sd1, sd2⟩ := sides l1 l2 hO hs1 hs2
  obtain ⟨bd1, bd2, bd3, bd4, bd5⟩ := bounds hO hs1 hs2
  refine put_inner (Q := InsPost3 w (flat (C1 ++ (Value.pointer (some ⟨bx, 0, none⟩), cE) :: C2)) k b) (ka := S1.map (·.1)) (kb := S2.map (·.1)) (ca := C1.map (·.1)) (cb := C2.map (·.1)) (i := C1.length) (r := C2.length) hN (by simpa using l1) (by simpa using l2) (by simp) (by simp) hsl1 hsl2 (by omega) (hch w (Below.refl _ _)) (put_leafE hLc hcs a2.2.1 hkey hval) ?_
  rintro e w1 ⟨hbel, hp⟩
  refine ⟨hbel, ?_⟩
  rcases hp with ⟨p', E', rfl, hL', hU, h32, hge, hpos⟩ | ⟨p1, E1, sa, sc, sk, d, E2, rfl, hL1, hL2, hsk, hU, hlt, hle, z1, z2, z3, z4, z5⟩
  · refine .inl ⟨p', rfl, fun w' b1 g1 hh1 hB => ?_⟩
    have hb2 : Below w.heap.size w w' := hbel.trans (hB.2.2.2.2.mono hbel.size)
    have hO' : (pre (sns S1) (ces C1) ++ (odd E' ++ suf (sns S2) (ces C2))).Pairwise (· < ·) := pw_mid hO (sorted_odd.1 hU.1) (fun x hx y hy => by
      rcases upd_keys hU hy with rfl | hy
      · exact bd1 x hx
      · exact bd3 x hx y hy) (fun y hy x hx => by
      rcases upd_keys hU hy with rfl | hy
      · exact bd2 x hx
      · exact bd4 y hy x hx)
    have hOO : (inter (sns (S1 ++ S2)) (ces (C1 ++ (Value.pointer p', E') :: C2))).Pairwise (· < ·) := by
      rw [sns_app, ces_split, inter_split _ _ _ _ _ (by simpa [sns, ces] using l1)]
      exact hO'
    have hIE : InnerE w' (.pointer (some ⟨b1, 0, none⟩)) (S1 ++ S2) (C1 ++ (Value.pointer p', E') :: C2) := by
      refine ⟨b1, g1, hh1, rfl, ?_, by simp at hl ⊢; omega, fun s hs => (hS s hs).below hb2, fun c hc => ?_⟩
      · have hlen2 : (C1 ++ (Value.pointer p', E') :: C2).length = C1.length + C2.length + 1 := by simp; omega
        rw [hlen2, List.map_append, List.map_append, List.map_cons]
        exact hB.1
      · rcases List.mem_append.1 hc with hc | hc
        · exact (hC c (List.mem_append_left _ hc)).below hb2
        · rcases List.mem_cons.1 hc with rfl | hc
          · exact hL'.below hB.2.2.2.2
          · exact (hC c (List.mem_append_right _ (List.mem_cons_of_mem _ hc))).below hb2
    refine ⟨_, flat (C1 ++ (Value.pointer p', E') :: C2), rfl, .inr (.inr ⟨_, _, hIE, rfl, by simp; omega, hOO, ?_⟩), ?_, hb2⟩
    · rw [ces_split]
      refine shape_mid hSh h32 hpos (fun hne => ?_)
      have := a2.2.2 hne
      exact Nat.le_trans this hge
    · have hso := inner_sorted hIE.len hOO
      rw [flat_split] at hso ⊢
      rw [flat_split]
      exact upd_flat hU hso sd1 sd2
  · refine .inr ⟨p1, sa, 2, sc, d, rfl, fun w' b1 g1 hh1 hB => ?_⟩
    have hb2 : Below w.heap.size w w' := hbel.trans (hB.2.2.2.2.mono hbel.size)
    have hE1 : ∃ e, e ∈ E1 := by
      cases E1 with
      | nil => simp at z1
      | cons e E => exact ⟨e, List.mem_cons_self ..⟩
    have hE2 : ∃ e, e ∈ E2 := by
      cases E2 with
      | nil => simp at z3
      | cons e E => exact ⟨e, List.mem_cons_self ..⟩
    obtain ⟨x1, hx1⟩ := hE1
    obtain ⟨x2, hx2⟩ := hE2
    obtain ⟨u1, u2, u3⟩ := sorted_app.1 hU.1
    have lowU : ∀ y ∈ odd (E1 ++ E2), (∀ x ∈ pre (sns S1) (ces C1), x < y) ∧ ∀ x ∈ suf (sns S2) (ces C2), y < x := fun y hy => by
      rcases upd_keys hU hy with rfl | hy
      · exact ⟨bd1, bd2⟩
      · exact ⟨fun x hx => bd3 x hx y hy, bd4 y hy⟩
    have m1 := lowU (2 * key x1 + 1) (by rw [odd_app]; exact List.mem_append_left _ (mem_odd.2 ⟨x1, hx1, rfl⟩))
    have m2 := lowU (2 * key x2 + 1) (by rw [odd_app]; exact List.mem_append_right _ (mem_odd.2 ⟨x2, hx2, rfl⟩))
    have q1 := hlt x1 hx1
    have q2 := hle x2 hx2
    have hO' : (pre (sns S1) (ces C1) ++ ((odd E1 ++ 2 * sk :: odd E2) ++ suf (sns S2) (ces C2))).Pairwise (· < ·) := by
      refine pw_mid hO (List.pairwise_append.2 ⟨sorted_odd.1 u1, List.pairwise_cons.2 ⟨fun y hy => ?_, sorted_odd.1 u2⟩, fun x hx y hy => ?_⟩) (fun x hx y hy => ?_) (fun y hy x hx => ?_)
      · obtain ⟨e, he, rfl⟩ := mem_odd.1 hy
        have := hle e he
        omega
      · obtain ⟨e, he, rfl⟩ := mem_odd.1 hx
        rcases List.mem_cons.1 hy with rfl | hy
        · have := hlt e he
          omega
        · obtain ⟨e', he', rfl⟩ := mem_odd.1 hy
          have := u3 e he e' he'
          omega
      · rcases List.mem_append.1 hy with hy | hy
        · exact (lowU y (by rw [odd_app]; exact List.mem_append_left _ hy)).1 x hx
        · rcases List.mem_cons.1 hy with rfl | hy
          · have := m1.1 x hx
            omega
          · exact (lowU y (by rw [odd_app]; exact List.mem_append_right _ hy)).1 x hx
      · rcases List.mem_append.1 hy with hy | hy
        · exact (lowU y (by rw [odd_app]; exact List.mem_append_left _ hy)).2 x hx
        · rcases List.mem_cons.1 hy with rfl | hy
          · have := m2.2 x hx
            omega
          · exact (lowU y (by rw [odd_app]; exact List.mem_append_right _ hy)).2 x hx
    have hOO : (inter (sns (S1 ++ (Value.slice sa 2 sc, sk) :: S2)) (ces (C1 ++ (Value.pointer p1, E1) :: (Value.pointer (some d), E2) :: C2))).Pairwise (· < ·) := by
      have e1 : sns (S1 ++ (Value.slice sa 2 sc, sk) :: S2) = sns S1 ++ sk :: sns S2 := by simp [sns]
      have e2 : ces (C1 ++ (Value.pointer p1, E1) :: (Value.pointer (some d), E2) :: C2) = ces C1 ++ E1 :: E2 :: ces C2 := by simp [ces]
      rw [e1, e2, inter_split2 _ _ _ _ _ _ _ (by simpa [sns, ces] using l1)]
      simpa using hO'
    have hIE : InnerE w' (.pointer (some ⟨b1, 0, none⟩)) (S1 ++ (Value.slice sa 2 sc, sk) :: S2) (C1 ++ (Value.pointer p1, E1) :: (Value.pointer (some d), E2) :: C2) := by
      refine ⟨b1, g1, hh1, rfl, ?_, by simp at hl ⊢; omega, fun s hs => ?_, fun c hc => ?_⟩
      · have hlen2 : (C1 ++ (Value.pointer p1, E1) :: (Value.pointer (some d), E2) :: C2).length = C1.length + C2.length + 2 := by simp; omega
        rw [hlen2, List.map_append, List.map_append, List.map_cons, List.map_cons, List.map_cons]
        exact hB.1
      · rcases List.mem_append.1 hs with hs | hs
        · exact (hS s (List.mem_append_left _ hs)).below hb2
        · rcases List.mem_cons.1 hs with rfl | hs
          · exact hsk.below hB.2.2.2.2
          · exact (hS s (List.mem_append_right _ hs)).below hb2
      · rcases List.mem_append.1 hc with hc | hc
        · exact (hC c (List.mem_append_left _ hc)).below hb2
        · rcases List.mem_cons.1 hc with rfl | hc
          · exact hL1.below hB.2.2.2.2
          · rcases List.mem_cons.1 hc with rfl | hc
            · exact hL2.below hB.2.2.2.2
            · exact (hC c (List.mem_append_right _ (List.mem_cons_of_mem _ hc))).below hb2
    refine ⟨_, flat (C1 ++ (Value.pointer p1, E1) :: (Value.pointer (some d), E2) :: C2), rfl, .inr (.inr ⟨_, _, hIE, rfl, by simp; omega, hOO, ?_⟩), ?_, hb2⟩
    · have e2 : ces (C1 ++ (Value.pointer p1, E1) :: (Value.pointer (some d), E2) :: C2) = ces C1 ++ E1 :: E2 :: ces C2 := by simp [ces]
      rw [e2]
      refine shape_two hSh z1 z2 z3 z4 (fun hne => z5 ?_)
      have : ¬ C2.length = 0 := fun e => hne (by have : C2 = [] := List.eq_nil_of_length_eq_zero e; subst this; rfl)
      simp [this]
    · have hso := inner_sorted hIE.len hOO
      rw [flat_two] at hso ⊢
      rw [flat_split]
      exact upd_flat hU hso sd1 sd2

theorem insert_tree {w : World} {p kv vv : Value} {L : List Ent} {k : Nat} {b : List UInt8} (hT : TreeE w p L) (hkey : KeyAt w kv k) (hval : ValAt w vv b) :
    Calls Ybaf.prog 19 #[p, kv, vv] w (InsPost w L k b) := by
  obtain ⟨av, nv, cv, rfl, hv1⟩ := id hval
  rcases hT with ⟨rfl, rfl⟩ | ⟨hL, hs, h1, h32⟩ | ⟨S, C, hI, rfl, h2, hO, hSh⟩
  · obtain ⟨ak, ck, rfl, hk1, hk2, hk3⟩ := id hkey
    refine insert_nil.mono ?_
    rintro e w' ⟨b1, g1, rfl, hB⟩
    have hbel := hB.2.2.2
    have ok : Oks w' [(Value.slice ak 2 ck, Value.slice av nv cv, k, b)] := fun e he => by
      obtain rfl := List.mem_singleton.1 he
      exact ⟨hkey.below hbel, hval.below hbel⟩
    have hL := hB.leafE (E := [(Value.slice ak 2 ck, Value.slice av nv cv, k, b)]) rfl ok
    have hU : Upd [] [(Value.slice ak 2 ck, Value.slice av nv cv, k, b)] k b := upd_new (A := []) (B := []) (sorted_odd.2 (by simp)) (by simp) (by simp) rfl
    exact ⟨_, _, rfl, .inr (.inl ⟨hL, hU.1, by simp, by simp⟩), hU, hbel⟩
  · obtain ⟨b0, rfl⟩ := hL.ptr
    refine (insert_put (Q := InsPost w L k b) (put_leafE (rv := true) hL hs h32 hkey hval) ?_).mono fun e w' h => h.out
    rintro e w1 ⟨hbel, hp⟩
    rcases hp with ⟨p', E', rfl, hL', hU, h32', hge, hpos⟩ | ⟨p1, E1, sa, sc, sk, d, E2, rfl, hL1, hL2, hsk, hU, hlt, hle, z1, z2, z3, z4, z5⟩
    · exact .inl ⟨p', rfl, p', E', rfl, .inr (.inl ⟨hL', hU.1, by omega, h32'⟩), hU, hbel⟩
    · refine .inr ⟨p1, sa, 2, sc, d, rfl, fun w' b1 g1 hh1 hB => ?_⟩
      have hb2 : Below w.heap.size w w' := hbel.trans (hB.2.2.2.2.mono hbel.size)
      obtain ⟨u1, u2, u3⟩ := sorted_app.1 hU.1
      have hOO : (inter (sns [(Value.slice sa 2 sc, sk)]) (ces [(Value.pointer p1, E1), (Value.pointer (some d), E2)])).Pairwise (· < ·) := by
        show (odd E1 ++ 2 * sk :: odd E2).Pairwise (· < ·)
        refine List.pairwise_append.2 ⟨sorted_odd.1 u1, List.pairwise_cons.2 ⟨fun y hy => ?_, sorted_odd.1 u2⟩, fun x hx y hy => ?_⟩
        · obtain ⟨e, he, rfl⟩ := mem_odd.1 hy
          have := hle e he
          omega
        · obtain ⟨e, he, rfl⟩ := mem_odd.1 hx
          rcases List.mem_cons.1 hy with rfl | hy
          · have := hlt e he
            omega
          · obtain ⟨e', he', rfl⟩ := mem_odd.1 hy
            have := u3 e he e' he'
            omega
      refine ⟨_, E1 ++ E2, rfl, .inr (.inr ⟨[(Value.slice sa 2 sc, sk)], [(Value.pointer p1, E1), (Value.pointer (some d), E2)], ⟨b1, g1, hh1, rfl, hB.1, rfl, fun s hs => ?_, fun c hc => ?_⟩, by simp [flat], by simp, hOO, ?_⟩), hU, hb2⟩
      · obtain rfl := List.mem_singleton.1 hs
        exact hsk.below hB.2.2.2.2
      · rcases List.mem_cons.1 hc with rfl | hc
        · exact hL1.below hB.2.2.2.2
        · obtain rfl := List.mem_singleton.1 hc
          exact hL2.below hB.2.2.2.2
      · exact ⟨⟨Nat.le_trans (by decide) z1, z2, fun _ => z1⟩, ⟨z3, z4, fun h => absurd rfl h⟩, trivial⟩
  · obtain ⟨b0, g0, h0, rfl, -⟩ := id hI
    refine (insert_put (Q := InsPost w (flat C) k b) (put_innerE hI h2 hO hSh hkey hval) ?_).mono fun e w' h => h.out
    rintro e w1 ⟨p', L', rfl, hT', hU, hbel⟩
    exact .inl ⟨p', rfl, p', L', rfl, hT', hU, hbel⟩

end Go.Proofs.YbulkbgzmFmt
