/-
  CScript: 'remove' and 'get' of a tree.
-/
import Derived.Test.YbulkbgzmFmtCsM
namespace Go.Proofs.YbulkbgzmFmt
open Go.RowKit Go.Stop
set_option linter.unusedVariables false
attribute [local simp] kvs_app vvs_app kns_app cont_app odd_app kvs_cons vvs_cons kns_cons cont_cons odd_cons kvs_nil vvs_nil kns_nil cont_nil odd_nil kvs_len vvs_len kns_len
theorem below_refl (w : World) : Below w.heap.size w w := Below.refl _ _
/-- What 'delete' at an inner node hands back. -/
def DelAny (w : World) (b0 : Nat) (L : List Ent) (k : Nat) (e : Ending) (w' : World) : Prop :=
  (e = .returned (.pointer (some ⟨b0, 0, none⟩)) ∧ w' = w ∧ ∀ x ∈ L, key x ≠ k) ∨ DelOut w L k e w'

theorem del_innerE {w : World} {b0 : Nat} {kv : Value} {S : List (Value × Nat)} {C : List (Value × List Ent)} {k : Nat} (hI : InnerE w (.pointer (some ⟨b0, 0, none⟩)) S C) (h2 : 2 ≤ C.length) (hO : (inter (sns S) (ces C)).Pairwise (· < ·)) (hSh : Shape (ces C)) (hkey : KeyAt w kv k) :
    Calls Ybaf.prog 33 #[.pointer (some ⟨b0, 0, none⟩), kv] w (DelAny w b0 (flat C) k) := by
  have h3 := inner_few hI hO hSh
  obtain ⟨b0', g0, h0, hb0, hN, hl, hS, hC⟩ := hI
  simp only [Value.pointer.injEq, Option.some.injEq, Addr.mk.injEq, and_true] at hb0
  subst hb0
  have hO0 := hO
  have hSh0 := hSh
  obtain ⟨S1, S2, C1, c, C2, rfl, rfl, l1, l2, hs1, hs2, hch⟩ := child_split hN hl hS hO (by omega) hkey
  obtain ⟨cp, cE⟩ := c
  have hLc : LeafE w cp cE := hC (cp, cE) (by simp)
  obtain ⟨bx, rfl⟩ := hLc.ptr
  rw [sns_app, ces_split, inter_split _ _ _ _ _ (by simpa [sns, ces] using l1)] at hO
  rw [ces_split] at hSh
  have hcs : Sorted cE := sorted_odd.2 (List.pairwise_append.1 (List.pairwise_append.1 hO).2.1).1
  obtain ⟨a1, a2, a3⟩ := (shape_app _ _ _).1 hSh
  have hsl1 := seps_sls hS
  have hsl2 := ptrs_sls hC
  have hlen : (C1 ++ (Value.pointer (some ⟨bx, 0, none⟩), cE) :: C2).length = C1.length + C2.length + 1 := by simp; omega
  obtain ⟨sd1, sd2⟩ := sides l1 l2 hO hs1 hs2
  obtain ⟨bd1, bd2, bd3, bd4, bd5⟩ := bounds hO hs1 hs2
  obtain ⟨gx, hNx, okx⟩ := hLc.new
  have hcall := hch w (below_refl w)
  rcases partE cE hcs k with ⟨A, e0, B, rfl, he, ha, hb⟩ | ⟨A, B, rfl, ha, hb⟩
  · have hP := del_leafE hNx okx hcs a2.2.1 hkey he ha hb
    have hDc := del_found hcs he ha hb
    have hcl : (A ++ e0 :: B).length = (A ++ B).length + 1 := by simp; omega
    have okc : Oks w (A ++ B) := okx.sub fun e h => by
      rcases List.mem_append.1 h with h | h
      · exact List.mem_append_left _ h
      · exact List.mem_append_right _ (List.mem_cons_of_mem _ h)
    have hsub : (A ++ B).Sublist (A ++ e0 :: B) := List.Sublist.append (List.Sublist.refl _) (List.sublist_cons_self _ _)
    generalize hcE : A ++ e0 :: B = cE at *
    generalize hc' : A ++ B = c' at *
    by_cases hu : c'.length < 16
    · -- underfull
      rcases List.eq_nil_or_concat C1 with rfl | ⟨C1', a, rfl⟩
      · -- the first child
        obtain rfl : S1 = [] := List.eq_nil_of_length_eq_zero (by simpa using l1)
        cases C2 with
        | nil => simp at h2
        | cons d C2 =>
          cases S2 with
          | nil => simp at l2
          | cons s S2 =>
            obtain ⟨dp, dE⟩ := d
            obtain ⟨sv, sk⟩ := s
            have hLd : LeafE w dp dE := hC (dp, dE) (by simp)
            obtain ⟨bB, rfl⟩ := hLd.ptr
            obtain ⟨gB, hNB, okB⟩ := hLd.new
            have hks : KeyAt w sv sk := hS (sv, sk) (by simp)
            obtain ⟨kxa, kxc, rfl, -⟩ := id hks
            simp only [List.length_cons, Nat.add_right_cancel_iff] at l2
            have hdl : 1 ≤ dE.length ∧ dE.length ≤ 32 ∧ (ces C2 ≠ [] → 16 ≤ dE.length) := a3.1
            have hJs : Sorted (cE ++ dE) := by
              have := inner_sorted hl hO0
              rw [List.nil_append, flat, List.map_cons, List.map_cons, List.flatten_cons, List.flatten_cons, ← List.append_assoc] at this
              exact (sorted_app.1 this).1
            have hJ' : Sorted (c' ++ dE) := hJs.sub (List.Sublist.append hsub (List.Sublist.refl _))
            have sdd : ∀ e ∈ dE, key e ≠ k := fun e he => sd2 e (List.mem_flatten.2 ⟨dE, by simp, he⟩)
            have sd2' : ∀ e ∈ flat C2, key e ≠ k := fun e he => sd2 e (by
              obtain ⟨l, hl, he⟩ := List.mem_flatten.1 he
              exact List.mem_flatten.2 ⟨l, by simp only [List.map_cons]; exact List.mem_cons_of_mem _ hl, he⟩)
            have hD : Del (cE ++ dE) (c' ++ dE) k := by
              have := del_flat (L1 := []) (L2 := dE) hDc (by simpa using hJ') (by simp) sdd
              simpa using this
            have okJ : Oks w (c' ++ dE) := fun e he => by
              rcases List.mem_append.1 he with h | h
              · exact okc e h
              · exact okB e h
            have hNN : NewInner w b0 g0 h0 (0 + C2.length + 2) ([] ++ .slice kxa 2 kxc :: S2.map (·.1)) ([] ++ .pointer (some ⟨bx, 0, none⟩) :: .pointer (some ⟨bB, 0, none⟩) :: C2.map (·.1)) := by
              have e : (0 + C2.length + 2) = (([] : List (Value × List Ent)) ++ (Value.pointer (some ⟨bx, 0, none⟩), cE) :: (Value.pointer (some ⟨bB, 0, none⟩), dE) :: C2).length := by simp
              rw [e]
              exact hN
            refine (del_lo (Q := DelAny w b0 (flat ([] ++ (Value.pointer (some ⟨bx, 0, none⟩), cE) :: (Value.pointer (some ⟨bB, 0, none⟩), dE) :: C2)) k) (kA := kvs c') (vA := vvs c') (kB := kvs dE) (vB := vvs dE) (nA := c'.length) (nB := dE.length) hNN rfl (by simpa using l2) rfl (by simp) hsl1 hsl2 (by simp at h3; omega) hLc.node rfl hcall hP hNB (by simp) (by simp) (by simp) (by simp) okc.sls1 okc.sls2 okB.sls1 okB.sls2 hu hdl.2.1 (by omega) (fun v hv => by rw [← kvs_app] at hv; exact okJ.slices v hv) ?_ ?_).mono fun e w' h => h.out
            · intro w2 w' bj gj b g h hle hB hI
              right
              refine out_merged (w2 := w2) (bj := bj) (g := g) (h := h) (S1 := []) (C1 := []) (J := c' ++ dE) rfl l2 hO0 hSh0 hS hC hD (by simp; omega) (by simp; omega) (fun hne => ?_) (by simp [flat]) sd2' okJ (n := C2.length + 1) (by simp) (by simp at h3; omega) (gj := gj) ?_ ?_
              · have := hdl.2.2 (fun e => hne (by simpa [ces] using e))
                simp; omega
              · simpa using hB
              · simpa using hI
            · intro w2 w' bl gl bd gd kvv b g h hlt hB1 hB2 hkv hI
              right
              have hJl : (c' ++ dE).length = c'.length + dE.length := by simp
              refine out_resplit (w2 := w2) (bl := bl) (bd := bd) (kvv := kvv) (g := g) (h := h) (S1 := []) (C1 := []) (J := c' ++ dE) (m := (c'.length + dE.length) / 2) rfl l2 hO0 hSh0 hS hC hD (by omega) (by omega) (by omega) (by omega) (by simpa using hkv) (by simp [flat]) sd2' okJ (n := C2.length + 2) (by simp) (by simp at h3; omega) (gl := gl) (gd := gd) ?_ ?_ ?_
              · rw [kvs_app, vvs_app]; exact hB1
              · rw [kvs_app, vvs_app, hJl]; exact hB2
              · simpa using hI
      · -- a child ahead of it
        rcases List.eq_nil_or_concat S1 with rfl | ⟨S1', s, rfl⟩
        · simp at l1
        · obtain ⟨ap, aE⟩ := a
          obtain ⟨sv, sk⟩ := s
          have hLa : LeafE w ap aE := hC (ap, aE) (by simp)
          obtain ⟨bA, rfl⟩ := hLa.ptr
          obtain ⟨gA, hNA, okA⟩ := hLa.new
          have hks : KeyAt w sv sk := hS (sv, sk) (by simp)
          obtain ⟨kxa, kxc, rfl, -⟩ := id hks
          have l1' : S1'.length = C1'.length := by simpa using l1
          have hal : 16 ≤ aE.length ∧ aE.length ≤ 32 := a1 aE (by simp [ces])
          have eS : S1' ++ [(Value.slice kxa 2 kxc, sk)] ++ S2 = S1' ++ (Value.slice kxa 2 kxc, sk) :: S2 := by simp
          have eC : C1' ++ [(Value.pointer (some ⟨bA, 0, none⟩), aE)] ++ (Value.pointer (some ⟨bx, 0, none⟩), cE) :: C2 = C1' ++ (Value.pointer (some ⟨bA, 0, none⟩), aE) :: (Value.pointer (some ⟨bx, 0, none⟩), cE) :: C2 := by simp
          rw [List.concat_eq_append] at *
          rw [List.concat_eq_append] at *
          rw [eS, eC] at hO0 hN hl
          rw [eC] at hSh0 hC hsl2 h2 h3 hlen ⊢
          rw [eS] at hS hsl1
          have hJs : Sorted (aE ++ cE) := by
            have := inner_sorted hl hO0
            rw [flat_two] at this
            exact (sorted_app.1 (sorted_app.1 this).2.1).1
          have hJ' : Sorted (aE ++ c') := hJs.sub (List.Sublist.append (List.Sublist.refl _) hsub)
          have sda : ∀ e ∈ aE, key e ≠ k := fun e he => sd1 e (List.mem_flatten.2 ⟨aE, by simp, he⟩)
          have sd1' : ∀ e ∈ flat C1', key e ≠ k := fun e he => sd1 e (by
            obtain ⟨l, hl, he⟩ := List.mem_flatten.1 he
            exact List.mem_flatten.2 ⟨l, by rw [List.map_append]; exact List.mem_append_left _ hl, he⟩)
          have hD : Del (aE ++ cE) (aE ++ c') k := by
            have := del_flat (L1 := aE) (L2 := []) hDc (by simpa using hJ') sda (by simp)
            simpa using this
          have okJ : Oks w (aE ++ c') := fun e he => by
            rcases List.mem_append.1 he with h | h
            · exact okA e h
            · exact okc e h
          have hlen2 : (C1' ++ (Value.pointer (some ⟨bA, 0, none⟩), aE) :: (Value.pointer (some ⟨bx, 0, none⟩), cE) :: C2).length = C1'.length + C2.length + 2 := by simp; omega
          have hNN : NewInner w b0 g0 h0 (C1'.length + C2.length + 2) (S1'.map (·.1) ++ .slice kxa 2 kxc :: S2.map (·.1)) (C1'.map (·.1) ++ .pointer (some ⟨bA, 0, none⟩) :: .pointer (some ⟨bx, 0, none⟩) :: C2.map (·.1)) := by
            rw [← hlen2]
            simpa using hN
          have hcall' : Calls Ybaf.prog 34 #[.pointer (some ⟨b0, 0, none⟩), kv] w fun e w' => e = .returned (.int .i64 ((C1'.length : Int) + 1)) ∧ w' = w := by
            have e : ((C1' ++ [(Value.pointer (some ⟨bA, 0, none⟩), aE)]).length : Int) = (C1'.length : Int) + 1 := by simp
            rw [e] at hcall
            exact hcall
          rw [hlen2] at h3
          refine (del_hi (Q := DelAny w b0 (flat (C1' ++ (Value.pointer (some ⟨bA, 0, none⟩), aE) :: (Value.pointer (some ⟨bx, 0, none⟩), cE) :: C2)) k) (kA := kvs aE) (vA := vvs aE) (kB := kvs c') (vB := vvs c') (nA := aE.length) (nB := c'.length) hNN (by simpa using l1') (by simpa using l2) (by simp) (by simp) (by simpa using hsl1) (by simpa using hsl2) (by omega) hLc.node hcall' hP hNA (by simp) (by simp) (by simp) (by simp) okA.sls1 okA.sls2 okc.sls1 okc.sls2 hu hal.2 (by omega) (fun v hv => by rw [← kvs_app] at hv; exact okJ.slices v hv) ?_ ?_).mono fun e w' h => h.out
          · intro w2 w' bj gj b g h hle hB hI
            right
            refine out_merged (w2 := w2) (bj := bj) (g := g) (h := h) (S1 := S1') (C1 := C1') (J := aE ++ c') l1' l2 hO0 hSh0 hS hC hD (by simp; omega) (by simp; omega) (fun hne => by simp; omega) sd1' sd2 okJ (n := C1'.length + C2.length + 1) rfl (by omega) (gj := gj) ?_ hI
            simpa using hB
          · intro w2 w' bl gl bd gd kvv b g h hlt hB1 hB2 hkv hI
            right
            have hJl : (aE ++ c').length = aE.length + c'.length := by simp
            refine out_resplit (w2 := w2) (bl := bl) (bd := bd) (kvv := kvv) (g := g) (h := h) (S1 := S1') (C1 := C1') (J := aE ++ c') (m := (aE.length + c'.length) / 2) l1' l2 hO0 hSh0 hS hC hD (by omega) (by omega) (by omega) (by omega) (by simpa using hkv) sd1' sd2 okJ (n := C1'.length + C2.length + 2) rfl (by omega) (gl := gl) (gd := gd) ?_ ?_ hI
            · rw [kvs_app, vvs_app]; exact hB1
            · rw [kvs_app, vvs_app, hJl]; exact hB2
    · -- full enough
      have a22 : cE.length ≤ 32 := a2.2.1
      rw [hlen] at hN h3
      rw [List.map_append (l₁ := C1), List.map_cons] at hN hsl2
      refine (del_keep (kc := kvs c') (vc := vvs c') (n := c'.length) hN (by simp) (by simp) hsl1 hsl2 (by omega) hLc.node hu (by simp) (by simp) hcall hP).mono ?_
      rintro e w' ⟨b, g, h, bc, gc, w1, rfl, ⟨hB, hBI⟩⟩
      right
      have hb2 : Below w.heap.size w w' := hB.2.2.2.trans (hBI.2.2.2.2.mono hB.2.2.2.size)
      have hO' : (pre (sns S1) (ces C1) ++ (odd c' ++ suf (sns S2) (ces C2))).Pairwise (· < ·) := pw_mid hO (sorted_odd.1 hDc.1) (fun x hx y hy => bd3 x hx y (del_keys hDc hy)) (fun y hy x hx => bd4 y (del_keys hDc hy) x hx)
      have hOO : (inter (sns (S1 ++ S2)) (ces (C1 ++ (Value.pointer (some ⟨bc, 0, none⟩), c') :: C2))).Pairwise (· < ·) := by
        rw [sns_app, ces_split, inter_split _ _ _ _ _ (by simpa [sns, ces] using l1)]
        exact hO'
      have hlen2 : (C1 ++ (Value.pointer (some ⟨bc, 0, none⟩), c') :: C2).length = C1.length + C2.length + 1 := by simp; omega
      have hll : (S1 ++ S2).length + 1 = (C1 ++ (Value.pointer (some ⟨bc, 0, none⟩), c') :: C2).length := by simp; omega
      refine ⟨b, g, h, w1, S1 ++ S2, C1 ++ (Value.pointer (some ⟨bc, 0, none⟩), c') :: C2, rfl, ?_, hB.2.2.2.size, hb2, hll, fun s hs => (hS s hs).below hb2, fun c hc => ?_, hOO, ?_, ?_, by omega⟩
      · rw [hlen2, List.map_append (l₁ := C1), List.map_cons]
        exact hBI
      · rcases List.mem_append.1 hc with hc | hc
        · exact (hC c (List.mem_append_left _ hc)).below hb2
        · rcases List.mem_cons.1 hc with rfl | hc
          · exact (hB.leafE rfl (okc.below hB.2.2.2)).below hBI.2.2.2.2
          · exact (hC c (List.mem_append_right _ (List.mem_cons_of_mem _ hc))).below hb2
      · rw [ces_split]
        exact shape_mid hSh (by simp; omega) (by simp; omega) (fun _ => by simp; omega)
      · have hso := inner_sorted hll hOO
        rw [flat_split] at hso ⊢
        rw [flat_split]
        exact del_flat hDc hso sd1 sd2
  · have hP := del_leafE_none hNx okx hcs a2.2.1 hkey ha hb
    rw [hlen] at hN
    rw [List.map_append (l₁ := C1), List.map_cons] at hN
    refine (del_same hN (by simp) (by omega) hcall hP).mono ?_
    rintro e w' ⟨rfl, rfl⟩
    refine .inl ⟨rfl, rfl, fun x hx => ?_⟩
    rw [flat_split] at hx
    rcases List.mem_append.1 hx with hx | hx
    · exact sd1 x hx
    · rcases List.mem_append.1 hx with hx | hx
      · rcases List.mem_append.1 hx with hx | hx
        · exact Nat.ne_of_lt (ha x hx)
        · exact Nat.ne_of_gt (hb x hx)
      · exact sd2 x hx

end Go.Proofs.YbulkbgzmFmt
