/-
  CScript: A LEAF's ENTRIES: 'put' at a leaf, told by its entries.
-/
import Derived.Test.YbulkbgzmFmtCsH
namespace Go.Proofs.YbulkbgzmFmt
open Go.RowKit Go.Stop
set_option linter.unusedVariables false
attribute [local simp] kvs_app vvs_app kns_app cont_app odd_app kvs_cons vvs_cons kns_cons cont_cons odd_cons kvs_nil vvs_nil kns_nil cont_nil odd_nil kvs_len vvs_len kns_len
/-- A slice that holds the bytes. -/
def ValAt (w : World) (v : Value) (l : List UInt8) : Prop := ∃ a n c, v = .slice a n c ∧ BytesAt w a n l
theorem ValAt.below {w w' : World} {v : Value} {l : List UInt8} (h : ValAt w v l) (hb : Below w.heap.size w w') : ValAt w' v l := by
  obtain ⟨a, n, c, h1, h2⟩ := h; exact ⟨a, n, c, h1, h2.below hb⟩
/-- The entries' slices hold what they say. -/
def EntOk (w : World) (e : Ent) : Prop := KeyAt w e.1 (key e) ∧ ValAt w e.2.1 e.2.2.2
def Oks (w : World) (E : List Ent) : Prop := ∀ e ∈ E, EntOk w e
theorem Oks.below {w w' : World} {E : List Ent} (h : Oks w E) (hb : Below w.heap.size w w') : Oks w' E := fun e he => ⟨(h e he).1.below hb, (h e he).2.below hb⟩
theorem Oks.put {w : World} {A B : List Ent} {e : Ent} (h1 : Oks w A) (h2 : Oks w B) (he : EntOk w e) : Oks w (A ++ e :: B) := fun x hx => by
  rcases List.mem_append.1 hx with h | h
  · exact h1 x h
  · rcases List.mem_cons.1 h with rfl | h
    · exact he
    · exact h2 x h
theorem Oks.sub {w : World} {E E' : List Ent} (h : Oks w E) (hs : ∀ e ∈ E', e ∈ E) : Oks w E' := fun e he => h e (hs e he)
theorem Oks.sls1 {w : World} {E : List Ent} (h : Oks w E) : Sls (kvs E) := fun v hv => by
  obtain ⟨e, he, rfl⟩ := List.mem_map.1 hv
  obtain ⟨a, c, e1, -⟩ := (h e he).1
  rw [e1]; rfl
theorem Oks.sls2 {w : World} {E : List Ent} (h : Oks w E) : Sls (vvs E) := fun v hv => by
  obtain ⟨e, he, rfl⟩ := List.mem_map.1 hv
  obtain ⟨a, n, c, e1, -⟩ := (h e he).2
  rw [e1]; rfl
theorem Oks.slices {w : World} {E : List Ent} (h : Oks w E) (v : Value) (hv : v ∈ kvs E) : ∃ a n c, v = .slice a n c := by
  obtain ⟨e, he, rfl⟩ := List.mem_map.1 hv
  obtain ⟨a, c, e1, -⟩ := (h e he).1
  exact ⟨a, 2, c, e1⟩
theorem Oks.keys {w : World} {E : List Ent} (h : Oks w E) : KeysAt w (kvs E) (kns E) := by
  refine ⟨by simp, fun j hj => ?_⟩
  have hj' : j < E.length := by simpa using hj
  refine ⟨E[j].1, by simp [kvs, hj'], ?_⟩
  have : kAt (kns E) j = key E[j] := by
    unfold kAt kns
    rw [List.getD_eq_getElem?_getD, List.getElem?_map, List.getElem?_eq_getElem hj']
    rfl
  rw [this]
  exact (h _ (List.getElem_mem hj')).1

/-- A leaf, by its entries. -/
def LeafE (w : World) (p : Value) (E : List Ent) : Prop := ∃ b g, p = .pointer (some ⟨b, 0, none⟩) ∧ NewLeaf w b g E.length (kvs E ++ vvs E) ∧ Oks w E
theorem LeafE.below {w w' : World} {p : Value} {E : List Ent} (h : LeafE w p E) (hb : Below w.heap.size w w') : LeafE w' p E := by
  obtain ⟨b, g, h1, h2, h3⟩ := h
  exact ⟨b, g, h1, h2.below hb, h3.below hb⟩
theorem Bld.leafE {w w' : World} {b g n : Nat} {E : List Ent} (h : Bld w w' b g n (kvs E ++ vvs E)) (hn : n = E.length) (ho : Oks w' E) : LeafE w' (.pointer (some ⟨b, 0, none⟩)) E := by
  subst hn
  exact ⟨b, g, rfl, h.1, ho⟩

theorem search_leaf {w : World} {b g n k : Nat} {A B : List Ent} {kv : Value} (hN : NewLeaf w b g n (kvs (A ++ B) ++ vvs (A ++ B))) (hl : (A ++ B).length = n) (ok : Oks w (A ++ B)) (hs : Sorted (A ++ B)) (hn : n ≤ 64) (hkey : KeyAt w kv k) (ha : ∀ a ∈ A, key a < k) (hb : ∀ b ∈ B, k ≤ key b) :
    Calls Ybaf.prog 35 #[.slice (some ⟨g, 0, none⟩) n n, kv] w fun e w' => e = .returned (.tuple #[.int .i64 (A.length : Nat), .bool (isAt (kns (A ++ B)) k A.length)]) ∧ w' = w := by
  obtain ⟨a, c, rfl, h1, h2, h3⟩ := hkey
  have hf : Found (kns (A ++ B)) k A.length := by
    have := found_of (A := kns A) (B := kns B) (k := k) (fun x hx => by obtain ⟨e, he, rfl⟩ := mem_kns.1 hx; exact ha e he) (fun x hx => by obtain ⟨e, he, rfl⟩ := mem_kns.1 hx; exact hb e he)
    rw [kns_app]
    simpa using this
  exact search_at (hN.rows (by simpa using hl)).1 ok.keys (by simpa using hl) hn h1 h2 (asc_of hs) hf
theorem search_leaf_found {w : World} {b g n k : Nat} {A B : List Ent} {e0 : Ent} {kv : Value} (hN : NewLeaf w b g n (kvs (A ++ e0 :: B) ++ vvs (A ++ e0 :: B))) (hl : (A ++ e0 :: B).length = n) (ok : Oks w (A ++ e0 :: B)) (hs : Sorted (A ++ e0 :: B)) (hn : n ≤ 64) (hkey : KeyAt w kv k) (ha : ∀ a ∈ A, key a < k) (he : key e0 = k) (hb : ∀ b ∈ B, k < key b) :
    Calls Ybaf.prog 35 #[.slice (some ⟨g, 0, none⟩) n n, kv] w fun e w' => e = .returned (.tuple #[.int .i64 (A.length : Nat), .bool true]) ∧ w' = w := by
  have := search_leaf hN hl ok hs hn hkey ha (fun x hx => by rcases List.mem_cons.1 hx with rfl | hx; exact Nat.le_of_eq he.symm; exact Nat.le_of_lt (hb x hx))
  have e1 : isAt (kns (A ++ e0 :: B)) k A.length = true := by
    have := isAt_mid (A := kns A) (B := kns B) (k := k)
    rw [kns_app, kns_cons, he]
    simpa using this
  rwa [e1] at this
theorem search_leaf_none {w : World} {b g n k : Nat} {A B : List Ent} {kv : Value} (hN : NewLeaf w b g n (kvs (A ++ B) ++ vvs (A ++ B))) (hl : (A ++ B).length = n) (ok : Oks w (A ++ B)) (hs : Sorted (A ++ B)) (hn : n ≤ 64) (hkey : KeyAt w kv k) (ha : ∀ a ∈ A, key a < k) (hb : ∀ b ∈ B, k < key b) :
    Calls Ybaf.prog 35 #[.slice (some ⟨g, 0, none⟩) n n, kv] w fun e w' => e = .returned (.tuple #[.int .i64 (A.length : Nat), .bool false]) ∧ w' = w := by
  have := search_leaf hN hl ok hs hn hkey ha (fun x hx => Nat.le_of_lt (hb x hx))
  have e1 : isAt (kns (A ++ B)) k A.length = false := by
    have := isAt_none (A := kns A) (B := kns B) (k := k) (fun x hx => by obtain ⟨e, he, rfl⟩ := mem_kns.1 hx; exact hb e he)
    rw [kns_app]
    simpa using this
  rwa [e1] at this

/-- Entries in order, cut ahead of the m-th. -/
theorem cut_at {E : List Ent} (h : Sorted E) {m : Nat} (hm : m < E.length) : ∃ x, (kvs E)[m]? = some x.1 ∧ x ∈ E.drop m ∧ (∀ e ∈ E.take m, key e < key x) ∧ ∀ e ∈ E.drop m, key x ≤ key e := by
  have hd : E.drop m = E[m] :: E.drop (m + 1) := List.drop_eq_getElem_cons hm
  have hs : Sorted (E.take m ++ E.drop m) := by rw [List.take_append_drop]; exact h
  obtain ⟨h1, h2, h3⟩ := sorted_app.1 hs
  rw [hd] at h2
  obtain ⟨h4, h5⟩ := sorted_cons.1 h2
  refine ⟨E[m], by simp [kvs, hm], by rw [hd]; exact List.mem_cons_self .., fun e he => h3 e he _ (by rw [hd]; exact List.mem_cons_self ..), fun e he => ?_⟩
  rw [hd] at he
  rcases List.mem_cons.1 he with rfl | he
  · exact Nat.le_refl _
  · exact Nat.le_of_lt (h4 e he)

/-- What 'put' at a leaf hands back. -/
def PutPost (w : World) (E : List Ent) (k : Nat) (b : List UInt8) (rv : Bool) (e : Ending) (w' : World) : Prop :=
  Below w.heap.size w w' ∧
    ((∃ p' E', e = .returned (.tuple #[.pointer p', .slice none 0 0, .pointer none]) ∧ LeafE w' (.pointer p') E' ∧ Upd E E' k b ∧ E'.length ≤ 32 ∧ E.length ≤ E'.length ∧ 0 < E'.length) ∨
     (∃ p1 E1 sa sc sk d E2, e = .returned (.tuple #[.pointer p1, .slice sa 2 sc, .pointer (some d)]) ∧ LeafE w' (.pointer p1) E1 ∧ LeafE w' (.pointer (some d)) E2 ∧ KeyAt w' (.slice sa 2 sc) sk ∧ Upd E (E1 ++ E2) k b ∧ (∀ e ∈ E1, key e < sk) ∧ (∀ e ∈ E2, sk ≤ key e) ∧
       16 ≤ E1.length ∧ E1.length ≤ 32 ∧ 1 ≤ E2.length ∧ E2.length ≤ 32 ∧ (rv = false → 16 ≤ E2.length)))

theorem put_leafE {w : World} {p kv vv : Value} {E : List Ent} {k : Nat} {b : List UInt8} {rv : Bool} (hL : LeafE w p E) (hs : Sorted E) (hn : E.length ≤ 32) (hkey : KeyAt w kv k) (hval : ValAt w vv b) :
    Calls Ybaf.prog 31 #[p, kv, vv, .bool rv] w (PutPost w E k b rv) := by
  obtain ⟨b0, g0, rfl, hN, ok⟩ := hL
  obtain ⟨av, nv, cv, rfl, hv1⟩ := id hval
  rcases partE E hs k with ⟨A, e0, B, rfl, he, ha, hb⟩ | ⟨A, B, rfl, ha, hb⟩
  · have hS := search_leaf_found hN rfl ok hs (by omega) hkey ha he hb
    refine (put_found (i := A.length) hN (by simp) (by simp) ok.sls1 ok.sls2 (by omega) (by simp) hS).mono ?_
    rintro e w' ⟨b1, g1, rfl, hB⟩
    have hbel := hB.2.2.2
    have he' : kvs (A ++ e0 :: B) ++ (vvs (A ++ e0 :: B)).set A.length (.slice av nv cv) = kvs (A ++ (e0.1, .slice av nv cv, k, b) :: B) ++ vvs (A ++ (e0.1, .slice av nv cv, k, b) :: B) := by
      have := set_mid (vvs A) (vvs B) e0.2.1 (.slice av nv cv) A.length (by simp)
      simp only [kvs_app, kvs_cons, vvs_app, vvs_cons, this]
    rw [he'] at hB
    have oA : Oks w A := ok.sub fun e h => List.mem_append_left _ h
    have oB : Oks w B := ok.sub fun e h => List.mem_append_right _ (List.mem_cons_of_mem _ h)
    have o0 := ok e0 (List.mem_append_right _ (List.mem_cons_self ..))
    have oN : Oks w' (A ++ (e0.1, .slice av nv cv, k, b) :: B) := (oA.below hbel).put (oB.below hbel) ⟨by have := o0.1.below hbel; rw [he] at this; exact this, hval.below hbel⟩
    refine ⟨hbel, .inl ⟨_, _, rfl, hB.leafE (by simp) oN, upd_found hs he ha hb rfl, by simpa using hn, by simp, by simp; omega⟩⟩
  · have hl : (A ++ B).length = A.length + B.length := by simp
    rw [hl] at hN
    have hS := search_leaf_none hN hl ok hs (by omega) hkey ha hb
    obtain ⟨ak, ck, rfl, hk1, hk2, hk3⟩ := id hkey
    refine (put_new (rv := rv) (i := A.length) (r := B.length) (ka := kvs A) (kb := kvs B) (va := vvs A) (vb := vvs B) (av := av) (nv := nv) (cv := cv) (by simpa using hN) (by simp) (by simp) (by simp) (by simp) (by simpa using ok.sls1) (by simpa using ok.sls2) (by omega) hS).mono ?_
    have oA : Oks w A := ok.sub fun e h => List.mem_append_left _ h
    have oB : Oks w B := ok.sub fun e h => List.mem_append_right _ h
    have hU : Upd (A ++ B) (A ++ (.slice ak 2 ck, .slice av nv cv, k, b) :: B) k b := upd_new hs ha hb rfl
    have oN : Oks w (A ++ (.slice ak 2 ck, .slice av nv cv, k, b) :: B) := oA.put oB ⟨hkey, hval⟩
    generalize hE : A ++ (Value.slice ak 2 ck, Value.slice av nv cv, k, b) :: B = E' at *
    have e1 : kvs A ++ Value.slice ak 2 ck :: kvs B = kvs E' := by rw [← hE]; simp
    have e2 : vvs A ++ Value.slice av nv cv :: vvs B = vvs E' := by rw [← hE]; simp
    have hlen : E'.length = A.length + B.length + 1 := by rw [← hE]; simp; omega
    rw [e1, e2]
    rintro e w' (⟨b1, g1, rfl, h32, hB⟩ | ⟨b1, g1, b2, g2, kv', m, rfl, h32, hm, hkv, hB1, hB2⟩)
    · exact ⟨hB.2.2.2, .inl ⟨_, E', rfl, hB.leafE hlen.symm (oN.below hB.2.2.2), hU, by omega, by omega, by omega⟩⟩
    · have hAB : A.length + B.length = 32 := by rw [hl] at hn; omega
      have hmm : m = 16 ∨ (m = 32 ∧ rv = true) := by
        rw [hm]
        split
        · rename_i h; exact .inr ⟨hAB, h.1⟩
        · exact .inl (by omega)
      obtain ⟨x, hx1, hx2, hx3, hx4⟩ := cut_at hU.1 (m := m) (by omega)
      rw [hkv] at hx1
      obtain rfl : kv' = x.1 := by simpa using hx1
      rw [kvs_take, vvs_take] at hB1
      rw [kvs_drop, vvs_drop] at hB2
      have oN' := oN.below hB1.2.2.2
      have l1 : (E'.take m).length = m := by rw [List.length_take]; omega
      have l2 : (E'.drop m).length = 33 - m := by rw [List.length_drop]; omega
      have hxk : KeyAt w' x.1 (key x) := (oN' x (List.mem_of_mem_drop hx2)).1
      obtain ⟨sa, sc, hsa, -⟩ := id hxk
      rw [hsa] at hxk ⊢
      refine ⟨hB1.2.2.2, .inr ⟨_, E'.take m, sa, sc, key x, ⟨b2, 0, none⟩, E'.drop m, rfl, hB1.leafE l1.symm (oN'.sub fun e h => List.mem_of_mem_take h), hB2.leafE (by omega) (oN'.sub fun e h => List.mem_of_mem_drop h), hxk, by rw [List.take_append_drop]; exact hU, hx3, hx4, ?_, ?_, ?_, ?_, ?_⟩⟩
      · omega
      · omega
      · omega
      · omega
      · intro hrv
        rcases hmm with h | ⟨-, h⟩
        · omega
        · rw [hrv] at h; cases h

end Go.Proofs.YbulkbgzmFmt
