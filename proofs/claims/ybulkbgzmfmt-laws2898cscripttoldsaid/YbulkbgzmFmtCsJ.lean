/-
  CScript: THE TREE, by its entries; 'insert'.
-/
import Derived.Test.YbulkbgzmFmtCsI
namespace Go.Proofs.YbulkbgzmFmt
open Go.RowKit Go.Stop
set_option linter.unusedVariables false
attribute [local simp] kvs_app vvs_app kns_app cont_app odd_app kvs_cons vvs_cons kns_cons cont_cons odd_cons kvs_nil vvs_nil kns_nil cont_nil odd_nil kvs_len vvs_len kns_len
/-- An inner node: its parting keys, its children. -/
def InnerE (w : World) (p : Value) (S : List (Value × Nat)) (C : List (Value × List Ent)) : Prop :=
  ∃ b g h, p = .pointer (some ⟨b, 0, none⟩) ∧ NewInner w b g h C.length (S.map (·.1)) (C.map (·.1)) ∧ S.length + 1 = C.length ∧ (∀ s ∈ S, KeyAt w s.1 s.2) ∧ ∀ c ∈ C, LeafE w c.1 c.2
theorem InnerE.below {w w' : World} {p : Value} {S : List (Value × Nat)} {C : List (Value × List Ent)} (h : InnerE w p S C) (hb : Below w.heap.size w w') : InnerE w' p S C := by
  obtain ⟨b, g, h, h1, h2, h3, h4, h5⟩ := h
  exact ⟨b, g, h, h1, h2.below hb, h3, fun s hs => (h4 s hs).below hb, fun c hc => (h5 c hc).below hb⟩
def flat (C : List (Value × List Ent)) : List Ent := (C.map (·.2)).flatten
def sns (S : List (Value × Nat)) : List Nat := S.map (·.2)
def ces (C : List (Value × List Ent)) : List (List Ent) := C.map (·.2)
/-- The tree and all its entries. -/
def TreeE (w : World) (p : Value) (L : List Ent) : Prop :=
  (p = .pointer none ∧ L = []) ∨ (LeafE w p L ∧ Sorted L ∧ 1 ≤ L.length ∧ L.length ≤ 32) ∨
    ∃ S C, InnerE w p S C ∧ L = flat C ∧ 2 ≤ C.length ∧ (inter (sns S) (ces C)).Pairwise (· < ·) ∧ Shape (ces C)
theorem TreeE.below {w w' : World} {p : Value} {L : List Ent} (h : TreeE w p L) (hb : Below w.heap.size w w') : TreeE w' p L := by
  rcases h with h | ⟨h1, h2⟩ | ⟨S, C, h1, h2⟩
  · exact .inl h
  · exact .inr (.inl ⟨h1.below hb, h2⟩)
  · exact .inr (.inr ⟨S, C, h1.below hb, h2⟩)
theorem inner_sorted {S : List (Value × Nat)} {C : List (Value × List Ent)} (hl : S.length + 1 = C.length) (h : (inter (sns S) (ces C)).Pairwise (· < ·)) : Sorted (flat C) :=
  sorted_odd.2 (List.Pairwise.sublist (odd_sub (sns S) (ces C) (by simpa [sns, ces] using hl)) h)
theorem TreeE.sorted {w : World} {p : Value} {L : List Ent} (h : TreeE w p L) : Sorted L := by
  rcases h with ⟨-, rfl⟩ | ⟨-, h2, -⟩ | ⟨S, C, ⟨-, -, -, -, -, h3, -⟩, rfl, -, h5, -⟩
  · exact sorted_odd.2 (by simp)
  · exact h2
  · exact inner_sorted h3 h5
theorem LeafE.oks {w : World} {p : Value} {E : List Ent} (h : LeafE w p E) : Oks w E := by
  obtain ⟨b, g, h1, h2, h3⟩ := h
  exact h3
theorem InnerE.oks {w : World} {p : Value} {S : List (Value × Nat)} {C : List (Value × List Ent)} (h : InnerE w p S C) : Oks w (flat C) := by
  obtain ⟨b, g, h, h1, h2, h3, h4, h5⟩ := h
  intro e he
  obtain ⟨l, hl, he⟩ := List.mem_flatten.1 he
  obtain ⟨c, hc, rfl⟩ := List.mem_map.1 hl
  exact (h5 c hc).oks e he
theorem Oks.lt {w : World} {E : List Ent} (h : Oks w E) (hs : Sorted E) : E.length ≤ 40 := by
  have := count_lt (kns E) 0 40 hs (fun x hx => by obtain ⟨e, he, rfl⟩ := mem_kns.1 hx; obtain ⟨-, -, -, -, h4, -⟩ := (h e he).1; exact ⟨Nat.zero_le _, h4⟩)
  simpa using this
theorem inner_few {w : World} {p : Value} {S : List (Value × Nat)} {C : List (Value × List Ent)} (h : InnerE w p S C) (h2 : (inter (sns S) (ces C)).Pairwise (· < ·)) (h3 : Shape (ces C)) : C.length ≤ 3 := by
  obtain ⟨-, -, -, -, -, hl, -⟩ := id h
  have h40 := h.oks.lt (inner_sorted hl h2)
  have hne : ces C ≠ [] := fun e => by
    have h0 : (ces C).length = 0 := by rw [e]; rfl
    simp only [ces, List.length_map] at h0
    omega
  have := shape_count (ces C) h3 hne
  have e : (ces C).flatten.length = (flat C).length := rfl
  have e2 : (ces C).length = C.length := by simp [ces]
  omega

/-- Where k lies among the parting keys. -/
theorem child_split {w : World} {b g h k : Nat} {S : List (Value × Nat)} {C : List (Value × List Ent)} {kv : Value} (hN : NewInner w b g h C.length (S.map (·.1)) (C.map (·.1))) (hl : S.length + 1 = C.length) (hS : ∀ s ∈ S, KeyAt w s.1 s.2) (h2 : (inter (sns S) (ces C)).Pairwise (· < ·)) (hn : C.length ≤ 64) (hkey : KeyAt w kv k) :
    ∃ S1 S2 C1 c C2, S = S1 ++ S2 ∧ C = C1 ++ c :: C2 ∧ S1.length = C1.length ∧ S2.length = C2.length ∧ (∀ s ∈ sns S1, s ≤ k) ∧ (∀ s ∈ sns S2, k < s) ∧
      ∀ X, Below w.heap.size w X → Calls Ybaf.prog 34 #[.pointer (some ⟨b, 0, none⟩), kv] X fun e w' => e = .returned (.int .i64 (C1.length : Nat)) ∧ w' = X := by
  have hp : (sns S).Pairwise (· < ·) := by
    have h := List.Pairwise.sublist (seps_sub (sns S) (ces C) (by simp [sns, ces]; omega)) h2
    generalize sns S = l at h
    clear h2 hS hl hN
    induction l with
    | nil => simp
    | cons x l ih =>
      rw [List.map_cons, List.pairwise_cons] at h
      rw [List.pairwise_cons]
      refine ⟨fun y hy => ?_, ih h.2⟩
      have := h.1 _ (List.mem_map_of_mem hy)
      omega
  have hk : KeysAt w (S.map (·.1)) (sns S) := by
    refine ⟨by simp [sns], fun j hj => ?_⟩
    have hj' : j < S.length := by simpa [sns] using hj
    refine ⟨S[j].1, by simp [hj'], ?_⟩
    have : kAt (sns S) j = S[j].2 := by
      unfold kAt sns
      rw [List.getD_eq_getElem?_getD, List.getElem?_map, List.getElem?_eq_getElem hj']
      rfl
    rw [this]
    exact hS _ (List.getElem_mem hj')
  have key1 : ∀ i, Found (sns S) k i → ∀ X, Below w.heap.size w X → Calls Ybaf.prog 34 #[.pointer (some ⟨b, 0, none⟩), kv] X fun e w' => e = .returned (.int .i64 (under (sns S) k i : Nat)) ∧ w' = X := fun i hf X hX => by
    obtain ⟨a, c, rfl, k1, k2, k3⟩ := hkey
    exact child_at ((hN.below hX).innerV (by omega)) (hk.below hX) (by simp; omega) (k1.below hX) k2 (asc_of hp) hf
  have cut : ∀ S1 S2 : List (Value × Nat), S = S1 ++ S2 → ∃ C1 c C2, C = C1 ++ c :: C2 ∧ S1.length = C1.length ∧ S2.length = C2.length := fun S1 S2 e => by
    subst e
    simp only [List.length_append] at hl
    have hlt : S1.length < C.length := by omega
    refine ⟨C.take S1.length, C[S1.length], C.drop (S1.length + 1), ?_, by rw [List.length_take]; omega, by rw [List.length_drop]; omega⟩
    rw [← List.drop_eq_getElem_cons hlt, List.take_append_drop]
  rcases part (sns S) hp k with ⟨A, B, e, ha, hb⟩ | ⟨A, B, e, ha, hb⟩
  · obtain ⟨S1, T, rfl, rfl, h4⟩ := map_split (fun s : Value × Nat => s.2) S A (k :: B) e
    obtain ⟨s, S2, rfl, h5, rfl⟩ := List.map_eq_cons_iff.1 h4
    obtain ⟨C1, c, C2, rfl, l1, l2⟩ := cut (S1 ++ [s]) S2 (by simp)
    refine ⟨S1 ++ [s], S2, C1, c, C2, by simp, rfl, l1, l2, fun x hx => ?_, hb, ?_⟩
    · simp only [sns, List.map_append, List.map_cons, List.map_nil, List.mem_append, List.mem_singleton] at hx
      rcases hx with hx | rfl
      · exact Nat.le_of_lt (ha x hx)
      · exact Nat.le_of_eq h5
    · have hf : Found (sns (S1 ++ s :: S2)) k (S1.map (fun s : Value × Nat => s.2)).length := by
        have := found_of (A := S1.map (fun s : Value × Nat => s.2)) (B := k :: S2.map (fun s : Value × Nat => s.2)) ha (fun x hx => by rcases List.mem_cons.1 hx with rfl | hx; exact Nat.le_refl _; exact Nat.le_of_lt (hb x hx))
        rw [e]
        exact this
      have := key1 _ hf
      have hu : under (sns (S1 ++ s :: S2)) k (S1.map (fun s : Value × Nat => s.2)).length = C1.length := by
        unfold under
        have e1 : isAt (sns (S1 ++ s :: S2)) k (S1.map (fun s : Value × Nat => s.2)).length = true := by
          rw [e]
          exact isAt_mid
        rw [e1, if_pos rfl, ← l1]
        simp
      rw [hu] at this
      exact this
  · obtain ⟨S1, S2, rfl, rfl, rfl⟩ := map_split (fun s : Value × Nat => s.2) S A B e
    obtain ⟨C1, c, C2, rfl, l1, l2⟩ := cut S1 S2 rfl
    refine ⟨S1, S2, C1, c, C2, rfl, rfl, l1, l2, fun x hx => Nat.le_of_lt (ha x hx), hb, ?_⟩
    have hf : Found (sns (S1 ++ S2)) k (S1.map (fun s : Value × Nat => s.2)).length := by
      have := found_of (A := S1.map (fun s : Value × Nat => s.2)) (B := S2.map (fun s : Value × Nat => s.2)) ha (fun x hx => Nat.le_of_lt (hb x hx))
      rw [e]
      exact this
    have := key1 _ hf
    have hu : under (sns (S1 ++ S2)) k (S1.map (fun s : Value × Nat => s.2)).length = C1.length := by
      unfold under
      have e1 : isAt (sns (S1 ++ S2)) k (S1.map (fun s : Value × Nat => s.2)).length = false := by
        rw [e]
        exact isAt_none hb
      rw [e1, if_neg (by simp), ← l1]
      simp
    rw [hu] at this
    exact this

theorem pw_mid {P M Q Y : List Nat} (h : (P ++ (M ++ Q)).Pairwise (· < ·)) (hY : Y.Pairwise (· < ·)) (h1 : ∀ x ∈ P, ∀ y ∈ Y, x < y) (h2 : ∀ y ∈ Y, ∀ x ∈ Q, y < x) : (P ++ (Y ++ Q)).Pairwise (· < ·) := by
  obtain ⟨a1, a2, a3⟩ := List.pairwise_append.1 h
  obtain ⟨b1, b2, b3⟩ := List.pairwise_append.1 a2
  refine List.pairwise_append.2 ⟨a1, List.pairwise_append.2 ⟨hY, b2, h2⟩, fun x hx y hy => ?_⟩
  rcases List.mem_append.1 hy with hy | hy
  · exact h1 x hx y hy
  · exact a3 x hx y (List.mem_append_right _ hy)

/-- The bounds of the children beside the one under which k lies. -/
theorem bounds {S1 S2 : List Nat} {C1 C2 : List (List Ent)} {c : List Ent} {k : Nat} (h : (pre S1 C1 ++ (odd c ++ suf S2 C2)).Pairwise (· < ·)) (h1 : ∀ s ∈ S1, s ≤ k) (h2 : ∀ s ∈ S2, k < s) :
    (∀ x ∈ pre S1 C1, x < 2 * k + 1) ∧ (∀ x ∈ suf S2 C2, 2 * k + 1 < x) ∧ (∀ x ∈ pre S1 C1, ∀ y ∈ odd c, x < y) ∧ (∀ y ∈ odd c, ∀ x ∈ suf S2 C2, y < x) ∧ (∀ x ∈ pre S1 C1, ∀ y ∈ suf S2 C2, x < y) := by
  obtain ⟨a1, a2, a3⟩ := List.pairwise_append.1 h
  obtain ⟨b1, b2, b3⟩ := List.pairwise_append.1 a2
  refine ⟨fun x hx => ?_, fun x hx => ?_, fun x hx y hy => a3 x hx y (List.mem_append_left _ hy), b3, fun x hx y hy => a3 x hx y (List.mem_append_right _ hy)⟩
  · obtain ⟨s, hs, hl⟩ := pre_le a1 hx
    have := h1 s hs
    omega
  · obtain ⟨s, hs, hl⟩ := suf_ge b2 hx
    have := h2 s hs
    omega

theorem upd_keys {c c' : List Ent} {k : Nat} {b : List UInt8} (h : Upd c c' k b) {y : Nat} (hy : y ∈ odd c') : y = 2 * k + 1 ∨ y ∈ odd c := by
  obtain ⟨e, he, rfl⟩ := mem_odd.1 hy
  rcases (h.2 e.2.2).1 (mem_cont.2 ⟨e, he, rfl⟩) with h | ⟨h, -⟩
  · left
    have : key e = k := by unfold key; rw [h]
    omega
  · right
    obtain ⟨e', he', h⟩ := mem_cont.1 h
    refine mem_odd.2 ⟨e', he', ?_⟩
    unfold key
    rw [h]
theorem upd_flat {L1 c c' L2 : List Ent} {k : Nat} {b : List UInt8} (h : Upd c c' k b) (hs : Sorted (L1 ++ (c' ++ L2))) (h1 : ∀ e ∈ L1, key e ≠ k) (h2 : ∀ e ∈ L2, key e ≠ k) : Upd (L1 ++ (c ++ L2)) (L1 ++ (c' ++ L2)) k b := by
  refine ⟨hs, fun y => ?_⟩
  simp only [cont_app, List.mem_append, h.2 y]
  constructor
  · rintro (h | (h | ⟨h, hn⟩) | h)
    · exact .inr ⟨.inl h, cont_ne h1 h⟩
    · exact .inl h
    · exact .inr ⟨.inr (.inl h), hn⟩
    · exact .inr ⟨.inr (.inr h), cont_ne h2 h⟩
  · rintro (h | ⟨h | h | h, hn⟩)
    · exact .inr (.inl (.inl h))
    · exact .inl h
    · exact .inr (.inl (.inr ⟨h, hn⟩))
    · exact .inr (.inr h)
theorem del_flat {L1 c c' L2 : List Ent} {k : Nat} (h : Del c c' k) (hs : Sorted (L1 ++ (c' ++ L2))) (h1 : ∀ e ∈ L1, key e ≠ k) (h2 : ∀ e ∈ L2, key e ≠ k) : Del (L1 ++ (c ++ L2)) (L1 ++ (c' ++ L2)) k := by
  refine ⟨hs, fun y => ?_⟩
  simp only [cont_app, List.mem_append, h.2 y]
  constructor
  · rintro (h | ⟨h, hn⟩ | h)
    · exact ⟨.inl h, cont_ne h1 h⟩
    · exact ⟨.inr (.inl h), hn⟩
    · exact ⟨.inr (.inr h), cont_ne h2 h⟩
  · rintro ⟨h | h | h, hn⟩
    · exact .inl h
    · exact .inr (.inl ⟨h, hn⟩)
    · exact .inr (.inr h)
theorem flat_split (C1 : List (Value × List Ent)) (c : Value × List Ent) (C2 : List (Value × List Ent)) : flat (C1 ++ c :: C2) = flat C1 ++ (c.2 ++ flat C2) := by simp [flat]
theorem flat_two (C1 : List (Value × List Ent)) (c d : Value × List Ent) (C2 : List (Value × List Ent)) : flat (C1 ++ c :: d :: C2) = flat C1 ++ ((c.2 ++ d.2) ++ flat C2) := by simp [flat]
theorem ces_split (C1 : List (Value × List Ent)) (c : Value × List Ent) (C2 : List (Value × List Ent)) : ces (C1 ++ c :: C2) = ces C1 ++ c.2 :: ces C2 := by simp [ces]
theorem sns_app (S1 S2 : List (Value × Nat)) : sns (S1 ++ S2) = sns S1 ++ sns S2 := by simp [sns]
theorem sides {S1 S2 : List (Value × Nat)} {C1 C2 : List (Value × List Ent)} {c : List Ent} {k : Nat} (l1 : S1.length = C1.length) (l2 : S2.length = C2.length) (h : (pre (sns S1) (ces C1) ++ (odd c ++ suf (sns S2) (ces C2))).Pairwise (· < ·)) (h1 : ∀ s ∈ sns S1, s ≤ k) (h2 : ∀ s ∈ sns S2, k < s) :
    (∀ e ∈ flat C1, key e ≠ k) ∧ ∀ e ∈ flat C2, key e ≠ k := by
  obtain ⟨b1, b2, -⟩ := bounds h h1 h2
  refine ⟨fun e he => ?_, fun e he => ?_⟩
  · obtain ⟨l, hl, he⟩ := List.mem_flatten.1 he
    have := b1 _ (mem_pre (S := sns S1) (C := ces C1) (by simpa [sns, ces] using l1) hl he)
    omega
  · obtain ⟨l, hl, he⟩ := List.mem_flatten.1 he
    have := b2 _ (mem_suf (S := sns S2) (C := ces C2) (by simpa [sns, ces] using l2) hl he)
    omega

end Go.Proofs.YbulkbgzmFmt
