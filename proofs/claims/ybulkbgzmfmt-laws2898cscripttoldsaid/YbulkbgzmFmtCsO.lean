/-
  CScript: 'remove' and 'get' of a tree.
-/
import Derived.Test.YbulkbgzmFmtCsN
namespace Go.Proofs.YbulkbgzmFmt
open Go.RowKit Go.Stop
set_option linter.unusedVariables false
attribute [local simp] kvs_app vvs_app kns_app cont_app odd_app kvs_cons vvs_cons kns_cons cont_cons odd_cons kvs_nil vvs_nil kns_nil cont_nil odd_nil kvs_len vvs_len kns_len
theorem remove_tree {w : World} {p kv : Value} {L : List Ent} {k : Nat} (hT : TreeE w p L) (hkey : KeyAt w kv k) : Calls Ybaf.prog 20 #[p, kv] w (RemPost w L k) := by
  rcases id hT with ⟨rfl, rfl⟩ | ⟨hL, hs, h1, h32⟩ | ⟨S, C, hI, rfl, h2, hO, hSh⟩
  · refine remove_nil.mono ?_
    rintro e w' ⟨rfl, rfl⟩
    exact ⟨none, [], rfl, hT, del_absent (sorted_odd.2 (by simp)) (by simp), Below.refl _ _⟩
  · obtain ⟨b0, rfl⟩ := hL.ptr
    obtain ⟨g0, hN, ok⟩ := hL.new
    rcases partE L hs k with ⟨A, e0, B, rfl, he, ha, hb⟩ | ⟨A, B, rfl, ha, hb⟩
    · have hD := del_found hs he ha hb
      have okc : Oks w (A ++ B) := ok.sub fun e h => by
        rcases List.mem_append.1 h with h | h
        · exact List.mem_append_left _ h
        · exact List.mem_append_right _ (List.mem_cons_of_mem _ h)
      have hlen : (A ++ e0 :: B).length = (A ++ B).length + 1 := by simp; omega
      refine (remove_any (Q := RemPost w (A ++ e0 :: B) k) (del_leafE hN ok hs h32 hkey he ha hb) hL.node ?_).mono fun e w' h => h.out
      rintro e w1 ⟨b, g, rfl, hB⟩
      refine .inr (.inl ⟨b, g, _, _, rfl, hB, by omega, fun h0 => ?_, fun h0 => ?_⟩)
      · have : A ++ B = [] := List.eq_nil_of_length_eq_zero h0
        rw [this] at hD
        exact ⟨none, [], rfl, .inl ⟨rfl, rfl⟩, hD, hB.2.2.2⟩
      · exact ⟨_, A ++ B, rfl, .inr (.inl ⟨hB.leafE rfl (okc.below hB.2.2.2), hD.1, h0, by omega⟩), hD, hB.2.2.2⟩
    · refine (remove_any (Q := RemPost w (A ++ B) k) (del_leafE_none hN ok hs h32 hkey ha hb) hL.node ?_).mono fun e w' h => h.out
      rintro e w1 ⟨rfl, rfl⟩
      refine .inl ⟨rfl, _, A ++ B, rfl, hT, del_absent hs (fun x hx => ?_), Below.refl _ _⟩
      rcases List.mem_append.1 hx with hx | hx
      · exact Nat.ne_of_lt (ha x hx)
      · exact Nat.ne_of_gt (hb x hx)
  · obtain ⟨b0, g0, h0, rfl, hN, -⟩ := id hI
    refine (remove_any (Q := RemPost w (flat C) k) (del_innerE hI h2 hO hSh hkey) ⟨_, _, _, hN.1⟩ ?_).mono fun e w' h => h.out
    rintro e w1 (⟨rfl, rfl, hn⟩ | ⟨b, g, h, w0, S', C', rfl, hB, hsz, hbel, hl, hS, hC, hO', hSh', hD, h64⟩)
    · exact .inl ⟨rfl, _, flat C, rfl, hT, del_absent hT.sorted hn, Below.refl _ _⟩
    · cases C' with
      | nil => simp at hl
      | cons c0 C'' =>
        obtain ⟨cp, cE⟩ := c0
        have hLc : LeafE w1 cp cE := hC (cp, cE) (List.mem_cons_self ..)
        obtain ⟨bx, rfl⟩ := hLc.ptr
        refine .inr (.inr ⟨b, g, h, w0, _, _, _, _, rfl, hB, hsz, hbel, h64, fun h1 => ?_, fun h1 => ?_⟩)
        · have : C'' = [] := List.eq_nil_of_length_eq_zero (by simpa using h1)
          subst this
          have hf : flat [(Value.pointer (some ⟨bx, 0, none⟩), cE)] = cE := by simp [flat]
          rw [hf] at hD
          exact ⟨_, cE, rfl, .inr (.inl ⟨hLc, hD.1, hSh'.1.1, hSh'.1.2.1⟩), hD, hbel⟩
        · have h2' : 2 ≤ ((Value.pointer (some ⟨bx, 0, none⟩), cE) :: C'').length := by
            simp only [List.length_cons] at h1 ⊢
            omega
          exact ⟨_, flat ((Value.pointer (some ⟨bx, 0, none⟩), cE) :: C''), rfl, .inr (.inr ⟨S', _, ⟨b, g, h, rfl, hB.1, hl, hS, hC⟩, rfl, h2', hO', hSh'⟩), hD, hbel⟩

/-- What 'get' hands back. -/
def GetPost (w : World) (L : List Ent) (k : Nat) (e : Ending) (w' : World) : Prop :=
  Below w.heap.size w w' ∧ ((∃ x, x ∈ L ∧ key x = k ∧ e = .returned (.tuple #[x.2.1, .bool true])) ∨ (e = .returned (.tuple #[.slice none 0 0, .bool false]) ∧ ∀ x ∈ L, key x ≠ k))

theorem get_leaf {w : World} {st bx gx k : Nat} {kv : Value} {E : List Ent} (hN : NewLeaf w bx gx E.length (kvs E ++ vvs E)) (ok : Oks w E) (hs : Sorted E) (hn : E.length ≤ 32) (hkey : KeyAt w kv k)
    (hst : st ≠ bx → ∃ g0 h0 j r ks0 ca cb, NewInner w st g0 h0 (j + r + 1) ks0 (ca ++ .pointer (some ⟨bx, 0, none⟩) :: cb) ∧ ca.length = j ∧ ∀ X, Below w.heap.size w X → Calls Ybaf.prog 34 #[.pointer (some ⟨st, 0, none⟩), kv] X fun e w' => e = .returned (.int .i64 (j : Nat)) ∧ w' = X) :
    Calls Ybaf.prog 21 #[.pointer (some ⟨st, 0, none⟩), kv] w (GetPost w E k) := by
  rcases partE E hs k with ⟨A, e0, B, rfl, he, ha, hb⟩ | ⟨A, B, rfl, ha, hb⟩
  · refine (get_any (fd := true) (v := e0.2.1) (i := A.length) hN (by simp) (by simp) hst (fun X hX => search_leaf_found (hN.below hX) rfl (ok.below hX) hs (by omega) (hkey.below hX) ha he hb) (fun _ => ⟨by simp, ?_⟩)).mono ?_
    · rw [vvs_app, List.getElem?_append_right (by simp)]
      simp
    · rintro e w' ⟨rfl, hbel⟩
      exact ⟨hbel, .inl ⟨e0, by simp, he, rfl⟩⟩
  · refine (get_any (fd := false) (v := .slice none 0 0) (i := A.length) hN (by simp) (by simp) hst (fun X hX => search_leaf_none (hN.below hX) rfl (ok.below hX) hs (by omega) (hkey.below hX) ha hb) (fun h => by cases h)).mono ?_
    rintro e w' ⟨rfl, hbel⟩
    refine ⟨hbel, .inr ⟨rfl, fun x hx => ?_⟩⟩
    rcases List.mem_append.1 hx with hx | hx
    · exact Nat.ne_of_lt (ha x hx)
    · exact Nat.ne_of_gt (hb x hx)

theorem get_tree {w : World} {p kv : Value} {L : List Ent} {k : Nat} (hT : TreeE w p L) (hkey : KeyAt w kv k) : Calls Ybaf.prog 21 #[p, kv] w (GetPost w L k) := by
  rcases hT with ⟨rfl, rfl⟩ | ⟨hL, hs, h1, h32⟩ | ⟨S, C, hI, rfl, h2, hO, hSh⟩
  · refine get_nil.mono ?_
    rintro e w' ⟨rfl, rfl⟩
    exact ⟨Below.refl _ _, .inr ⟨rfl, by simp⟩⟩
  · obtain ⟨b0, rfl⟩ := hL.ptr
    obtain ⟨g0, hN, ok⟩ := hL.new
    exact get_leaf hN ok hs h32 hkey (fun h => absurd rfl h)
  · have h3 := inner_few hI hO hSh
    obtain ⟨b0, g0, h0, rfl, hN, hl, hS, hC⟩ := hI
    obtain ⟨S1, S2, C1, c, C2, rfl, rfl, l1, l2, hs1, hs2, hch⟩ := child_split hN hl hS hO (by omega) hkey
    obtain ⟨cp, cE⟩ := c
    have hLc : LeafE w cp cE := hC (cp, cE) (by simp)
    obtain ⟨bx, rfl⟩ := hLc.ptr
    obtain ⟨gx, hNx, okx⟩ := hLc.new
    rw [sns_app, ces_split, inter_split _ _ _ _ _ (by simpa [sns, ces] using l1)] at hO
    rw [ces_split] at hSh
    have hcs : Sorted cE := sorted_odd.2 (List.pairwise_append.1 (List.pairwise_append.1 hO).2.1).1
    obtain ⟨a1, a2, a3⟩ := (shape_app _ _ _).1 hSh
    have hlen : (C1 ++ (Value.pointer (some ⟨bx, 0, none⟩), cE) :: C2).length = C1.length + C2.length + 1 := by simp; omega
    obtain ⟨sd1, sd2⟩ := sides l1 l2 hO hs1 hs2
    rw [hlen, List.map_append (l₁ := C1), List.map_cons] at hN
    refine (get_leaf hNx okx hcs a2.2.1 hkey (fun _ => ⟨g0, h0, C1.length, C2.length, _, C1.map (·.1), C2.map (·.1), hN, by simp, hch⟩)).mono ?_
    rintro e w' ⟨hbel, ⟨x, hm, hx, rfl⟩ | ⟨rfl, hn⟩⟩
    · refine ⟨hbel, .inl ⟨x, ?_, hx, rfl⟩⟩
      rw [flat_split]
      exact List.mem_append_right _ (List.mem_append_left _ hm)
    · refine ⟨hbel, .inr ⟨rfl, fun x hx => ?_⟩⟩
      rw [flat_split] at hx
      rcases List.mem_append.1 hx with hx | hx
      · exact sd1 x hx
      · rcases List.mem_append.1 hx with hx | hx
        · exact hn x hx
        · exact sd2 x hx

theorem TreeE.oks {w : World} {p : Value} {L : List Ent} (h : TreeE w p L) : Oks w L := by
  rcases h with ⟨-, rfl⟩ | ⟨h1, -⟩ | ⟨S, C, h1, rfl, -⟩
  · exact fun e he => by simp at he
  · exact h1.oks
  · exact h1.oks

end Go.Proofs.YbulkbgzmFmt
