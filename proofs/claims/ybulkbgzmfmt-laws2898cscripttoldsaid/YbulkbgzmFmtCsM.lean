/-
  CScript: 'delete' at an inner node and 'remove', told by the entries.
-/
import Derived.Test.YbulkbgzmFmtCsL
namespace Go.Proofs.YbulkbgzmFmt
open Go.RowKit Go.Stop
set_option linter.unusedVariables false
attribute [local simp] kvs_app vvs_app kns_app cont_app odd_app kvs_cons vvs_cons kns_cons cont_cons odd_cons kvs_nil vvs_nil kns_nil cont_nil odd_nil kvs_len vvs_len kns_len
theorem del_leafE {w : World} {b0 g0 : Nat} {A B : List Ent} {e0 : Ent} {kv : Value} {k : Nat} (hN : NewLeaf w b0 g0 (A ++ e0 :: B).length (kvs (A ++ e0 :: B) ++ vvs (A ++ e0 :: B))) (ok : Oks w (A ++ e0 :: B)) (hs : Sorted (A ++ e0 :: B)) (hn : (A ++ e0 :: B).length ≤ 32) (hkey : KeyAt w kv k) (he : key e0 = k) (ha : ∀ a ∈ A, key a < k) (hb : ∀ b ∈ B, k < key b) :
    Calls Ybaf.prog 33 #[.pointer (some ⟨b0, 0, none⟩), kv] w fun e w' => ∃ b g, e = .returned (.pointer (some ⟨b, 0, none⟩)) ∧ Bld w w' b g (A ++ B).length (kvs (A ++ B) ++ vvs (A ++ B)) := by
  have hl : (A ++ e0 :: B).length = A.length + B.length + 1 := by simp; omega
  rw [hl] at hN hn
  have hS := search_leaf_found hN hl ok hs (by omega) hkey ha he hb
  obtain ⟨ak, ck, rfl, -⟩ := id hkey
  have := del_leaf (i := A.length) (r := B.length) (ka := kvs A) (kb := kvs B) (va := vvs A) (vb := vvs B) (x := e0.1) (y := e0.2.1) (by simpa using hN) (by simp) (by simp) (by simp) (by simp) (by simpa using ok.sls1) (by simpa using ok.sls2) (by omega) hS
  have hl2 : (A ++ B).length = A.length + B.length := by simp
  rw [hl2, kvs_app, vvs_app]
  exact this
theorem del_leafE_none {w : World} {b0 g0 : Nat} {A B : List Ent} {kv : Value} {k : Nat} (hN : NewLeaf w b0 g0 (A ++ B).length (kvs (A ++ B) ++ vvs (A ++ B))) (ok : Oks w (A ++ B)) (hs : Sorted (A ++ B)) (hn : (A ++ B).length ≤ 32) (hkey : KeyAt w kv k) (ha : ∀ a ∈ A, key a < k) (hb : ∀ b ∈ B, k < key b) :
    Calls Ybaf.prog 33 #[.pointer (some ⟨b0, 0, none⟩), kv] w fun e w' => e = .returned (.pointer (some ⟨b0, 0, none⟩)) ∧ w' = w :=
  del_none hN (search_leaf_none hN rfl ok hs (by omega) hkey ha hb)
theorem LeafE.new {w : World} {b : Nat} {E : List Ent} (h : LeafE w (.pointer (some ⟨b, 0, none⟩)) E) : ∃ g, NewLeaf w b g E.length (kvs E ++ vvs E) ∧ Oks w E := by
  obtain ⟨b', g, h1, h2, h3⟩ := h
  simp only [Value.pointer.injEq, Option.some.injEq, Addr.mk.injEq, and_true] at h1
  subst h1
  exact ⟨g, h2, h3⟩

theorem out_merged {w w2 w' : World} {k bj gj b g h n s : Nat} {sv : Value} {S1 S2 : List (Value × Nat)} {C1 C2 : List (Value × List Ent)} {x1 x2 : Value × List Ent} {J : List Ent}
    (l1 : S1.length = C1.length) (l2 : S2.length = C2.length) (hO : (inter (sns (S1 ++ (sv, s) :: S2)) (ces (C1 ++ x1 :: x2 :: C2))).Pairwise (· < ·)) (hSh : Shape (ces (C1 ++ x1 :: x2 :: C2)))
    (hS : ∀ t ∈ S1 ++ (sv, s) :: S2, KeyAt w t.1 t.2) (hC : ∀ c ∈ C1 ++ x1 :: x2 :: C2, LeafE w c.1 c.2) (hD : Del (x1.2 ++ x2.2) J k) (hJ1 : 1 ≤ J.length) (hJ2 : J.length ≤ 32) (hJ3 : C2 ≠ [] → 16 ≤ J.length)
    (sd1 : ∀ e ∈ flat C1, key e ≠ k) (sd2 : ∀ e ∈ flat C2, key e ≠ k) (hok : Oks w J) (hn : n = C1.length + C2.length + 1) (h64 : n ≤ 64)
    (hB : Bld w w2 bj gj J.length (kvs J ++ vvs J)) (hI : BldI w2 w' b g h n (S1.map (·.1) ++ S2.map (·.1)) (C1.map (·.1) ++ .pointer (some ⟨bj, 0, none⟩) :: C2.map (·.1))) :
    DelOut w (flat (C1 ++ x1 :: x2 :: C2)) k (.returned (.pointer (some ⟨b, 0, none⟩))) w' := by
  have hb2 : Below w.heap.size w w' := hB.2.2.2.trans (hI.2.2.2.2.mono hB.2.2.2.size)
  have e1 : sns (S1 ++ (sv, s) :: S2) = sns S1 ++ s :: sns S2 := by simp [sns]
  have e2 : ces (C1 ++ x1 :: x2 :: C2) = ces C1 ++ x1.2 :: x2.2 :: ces C2 := by simp [ces]
  rw [e1, e2] at hO
  rw [e2] at hSh
  obtain ⟨p1, p2, p3⟩ := merged_plain (S1 := sns S1) (S2 := sns S2) (C1 := ces C1) (C2 := ces C2) (by simpa [sns, ces] using l1) (by simpa [sns, ces] using l2) hO hSh hD hJ1 hJ2 (fun h => hJ3 (fun e => h (by rw [e]; rfl))) sd1 sd2
  have f1 : ces (C1 ++ (Value.pointer (some ⟨bj, 0, none⟩), J) :: C2) = ces C1 ++ J :: ces C2 := by simp [ces]
  have f2 : (C1 ++ (Value.pointer (some ⟨bj, 0, none⟩), J) :: C2).length = n := by simp; omega
  refine ⟨b, g, h, w2, S1 ++ S2, C1 ++ (Value.pointer (some ⟨bj, 0, none⟩), J) :: C2, rfl, ?_, hB.2.2.2.size, hb2, by simp; omega, fun t ht => ?_, fun c hc => ?_, ?_, ?_, ?_, by omega⟩
  · rw [f2, List.map_append, List.map_append, List.map_cons]
    exact hI
  · refine (hS t ?_).below hb2
    rcases List.mem_append.1 ht with h | h
    · exact List.mem_append_left _ h
    · exact List.mem_append_right _ (List.mem_cons_of_mem _ h)
  · rcases List.mem_append.1 hc with hc | hc
    · exact (hC c (List.mem_append_left _ hc)).below hb2
    · rcases List.mem_cons.1 hc with rfl | hc
      · exact (hB.leafE rfl (hok.below hB.2.2.2)).below hI.2.2.2.2
      · exact (hC c (List.mem_append_right _ (List.mem_cons_of_mem _ (List.mem_cons_of_mem _ hc)))).below hb2
  · rw [sns_app, f1]
    exact p1
  · rw [f1]
    exact p2
  · rw [flat_two, flat_split]
    exact p3

theorem out_resplit {w w2 w' : World} {k bl gl bd gd b g h n s m : Nat} {sv kvv : Value} {S1 S2 : List (Value × Nat)} {C1 C2 : List (Value × List Ent)} {x1 x2 : Value × List Ent} {J : List Ent}
    (l1 : S1.length = C1.length) (l2 : S2.length = C2.length) (hO : (inter (sns (S1 ++ (sv, s) :: S2)) (ces (C1 ++ x1 :: x2 :: C2))).Pairwise (· < ·)) (hSh : Shape (ces (C1 ++ x1 :: x2 :: C2)))
    (hS : ∀ t ∈ S1 ++ (sv, s) :: S2, KeyAt w t.1 t.2) (hC : ∀ c ∈ C1 ++ x1 :: x2 :: C2, LeafE w c.1 c.2) (hD : Del (x1.2 ++ x2.2) J k)
    (hm1 : 16 ≤ m) (hm2 : m ≤ 32) (hm3 : m + 16 ≤ J.length) (hm4 : J.length ≤ m + 32) (hkv : (kvs J)[m]? = some kvv)
    (sd1 : ∀ e ∈ flat C1, key e ≠ k) (sd2 : ∀ e ∈ flat C2, key e ≠ k) (hok : Oks w J) (hn : n = C1.length + C2.length + 2) (h64 : n ≤ 64)
    (hB1 : Bld w w2 bl gl m ((kvs J).take m ++ (vvs J).take m)) (hB2 : Bld w w2 bd gd (J.length - m) ((kvs J).drop m ++ (vvs J).drop m))
    (hI : BldI w2 w' b g h n (S1.map (·.1) ++ kvv :: S2.map (·.1)) (C1.map (·.1) ++ .pointer (some ⟨bl, 0, none⟩) :: .pointer (some ⟨bd, 0, none⟩) :: C2.map (·.1))) :
    DelOut w (flat (C1 ++ x1 :: x2 :: C2)) k (.returned (.pointer (some ⟨b, 0, none⟩))) w' := by
  have hb2 : Below w.heap.size w w' := hB1.2.2.2.trans (hI.2.2.2.2.mono hB1.2.2.2.size)
  have e1 : sns (S1 ++ (sv, s) :: S2) = sns S1 ++ s :: sns S2 := by simp [sns]
  have e2 : ces (C1 ++ x1 :: x2 :: C2) = ces C1 ++ x1.2 :: x2.2 :: ces C2 := by simp [ces]
  rw [e1, e2] at hO
  rw [e2] at hSh
  obtain ⟨x, hx1, hx2, hx3, hx4⟩ := cut_at hD.1 (m := m) (by omega)
  rw [hkv] at hx1
  obtain rfl : kvv = x.1 := by simpa using hx1
  rw [kvs_take, vvs_take] at hB1
  rw [kvs_drop, vvs_drop] at hB2
  obtain ⟨p1, p2, p3⟩ := resplit_plain (S1 := sns S1) (S2 := sns S2) (C1 := ces C1) (C2 := ces C2) (by simpa [sns, ces] using l1) (by simpa [sns, ces] using l2) hO hSh hD hm1 hm2 hm3 hm4 hx3 hx4 hx2 sd1 sd2
  have f1 : ces (C1 ++ (Value.pointer (some ⟨bl, 0, none⟩), J.take m) :: (Value.pointer (some ⟨bd, 0, none⟩), J.drop m) :: C2) = ces C1 ++ J.take m :: J.drop m :: ces C2 := by simp [ces]
  have f2 : (C1 ++ (Value.pointer (some ⟨bl, 0, none⟩), J.take m) :: (Value.pointer (some ⟨bd, 0, none⟩), J.drop m) :: C2).length = n := by simp; omega
  have f3 : sns (S1 ++ (x.1, key x) :: S2) = sns S1 ++ key x :: sns S2 := by simp [sns]
  have t1 : (J.take m).length = m := by rw [List.length_take]; omega
  have t2 : (J.drop m).length = J.length - m := List.length_drop ..
  refine ⟨b, g, h, w2, S1 ++ (x.1, key x) :: S2, C1 ++ (Value.pointer (some ⟨bl, 0, none⟩), J.take m) :: (Value.pointer (some ⟨bd, 0, none⟩), J.drop m) :: C2, rfl, ?_, hB1.2.2.2.size, hb2, by simp; omega, fun t ht => ?_, fun c hc => ?_, ?_, ?_, ?_, by omega⟩
  · rw [f2, List.map_append, List.map_append, List.map_cons, List.map_cons, List.map_cons]
    exact hI
  · rcases List.mem_append.1 ht with h | h
    · exact (hS t (List.mem_append_left _ h)).below hb2
    · rcases List.mem_cons.1 h with rfl | h
      · exact (hok x (List.mem_of_mem_drop hx2)).1.below hb2
      · exact (hS t (List.mem_append_right _ (List.mem_cons_of_mem _ h))).below hb2
  · rcases List.mem_append.1 hc with hc | hc
    · exact (hC c (List.mem_append_left _ hc)).below hb2
    · rcases List.mem_cons.1 hc with rfl | hc
      · exact (hB1.leafE t1.symm ((hok.below hB1.2.2.2).sub fun e h => List.mem_of_mem_take h)).below hI.2.2.2.2
      · rcases List.mem_cons.1 hc with rfl | hc
        · exact (hB2.leafE t2.symm ((hok.below hB1.2.2.2).sub fun e h => List.mem_of_mem_drop h)).below hI.2.2.2.2
        · exact (hC c (List.mem_append_right _ (List.mem_cons_of_mem _ (List.mem_cons_of_mem _ hc)))).below hb2
  · rw [f3, f1]
    exact p1
  · rw [f1]
    exact p2
  · rw [flat_two, flat_two]
    exact p3

end Go.Proofs.YbulkbgzmFmt
