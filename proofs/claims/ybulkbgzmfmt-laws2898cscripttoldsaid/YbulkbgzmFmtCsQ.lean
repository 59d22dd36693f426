/-
  CScript: 'Session.Put', 'Session.Delete'.
-/
import Derived.Test.YbulkbgzmFmtCsP
namespace Go.Proofs.YbulkbgzmFmt
open Go.RowKit Go.Stop
set_option linter.unusedVariables false
attribute [local simp] kvs_app vvs_app kns_app cont_app odd_app kvs_cons vvs_cons kns_cons cont_cons odd_cons kvs_nil vvs_nil kns_nil cont_nil odd_nil kvs_len vvs_len kns_len
/-- Nothing but blocks x and y has turned, or is new. -/
def But2 (x y : Nat) (w w' : World) : Prop := w'.os = w.os ∧ w'.tape = w.tape ∧ w'.output = w.output ∧ w.heap.size ≤ w'.heap.size ∧ ∀ j, j < w.heap.size → j ≠ x → j ≠ y → w'.heap[j]? = w.heap[j]?
theorem But2.of_below {x y : Nat} {w w' : World} (h : Below w.heap.size w w') : But2 x y w w' := ⟨h.os, h.tape, h.output, h.size, fun j hj _ _ => h.block j hj⟩
theorem But2.trans {x y : Nat} {w w1 w2 : World} (h : But2 x y w w1) (h' : But2 x y w1 w2) : But2 x y w w2 :=
  ⟨h'.1.trans h.1, h'.2.1.trans h.2.1, h'.2.2.1.trans h.2.2.1, Nat.le_trans h.2.2.2.1 h'.2.2.2.1, fun j hj hx hy => (h'.2.2.2.2 j (Nat.lt_of_lt_of_le hj h.2.2.2.1) hx hy).trans (h.2.2.2.2 j hj hx hy)⟩
theorem But2.keeps1 {x y : Nat} {w w' : World} (h : Keeps x w w') : But2 x y w w' := ⟨h.1, h.2.1, h.2.2.1, Nat.le_of_eq h.2.2.2.1.symm, fun j _ hx _ => h.2.2.2.2 j hx⟩
theorem But2.keeps2 {x y : Nat} {w w' : World} (h : Keeps y w w') : But2 x y w w' := ⟨h.1, h.2.1, h.2.2.1, Nat.le_of_eq h.2.2.2.1.symm, fun j _ _ hy => h.2.2.2.2 j hy⟩
theorem But.of_keeps {x : Nat} {w w' : World} (h : Keeps x w w') : But x w w' := ⟨Nat.le_of_eq h.2.2.2.1.symm, fun j _ hx => h.2.2.2.2 j hx⟩

theorem step_append_fresh {ops : Array Oper} {o : Oper} {a : Act} {W : World} {K : Act → World → Prop} {Q : Exit → Act → World → Prop} {E : Prop} (hgd : o.guard = none) (s x : Operand)
    (ho : o.op = .call { callee := .builtin .append, args := #[s, x], argTypes := #[22, 22] }) (hs : a.eval s = .slice (some ⟨W.heap.size, 0, none⟩) 0 0)
    (src : Option Addr) (m c : Nat) (l : List UInt8) (hx : a.eval x = .slice src m c) (hb : BytesAt W src m l) (hnone : src = none → m = 0 ∧ c = 0) (hm : m ≤ 1073741824)
    (h : ∀ g cx w', Hid (w'.ownsRow W.heap.size 5 1 (.slice (some ⟨g, 0, none⟩) m cx) m (Lib.byteCells l)) → Hid (Below W.heap.size W w') → K (a.put o.dst (.slice (some ⟨g, 0, none⟩) m cx)) w') :
    if Region.wanted o (yielded ops a.tmps) = true then Oper.wp Ybaf.prog o a (W.alloc (.cells #[] 5)) K Q else E := by
  have hw : Region.wanted o (yielded ops a.tmps) = true := by simp [Region.wanted, hgd]
  rw [if_pos hw]
  obtain ⟨i0, hi, hz0, hz1, hz2⟩ := info_parts info5
  have hown : (W.alloc (.cells #[] 5)).ownsRow W.heap.size 5 1 (.slice (some ⟨W.heap.size, 0, none⟩) 0 0) 0 [] :=
    World.ownsRow_made (e := 5) (size := 1) (base := W.heap.size) W #[] 0 (Nat.le_refl _) (Nat.zero_le _) rfl
  obtain ⟨v', w', hr, h1, h2, h3, h4⟩ := run_append_step (P := Ybaf.prog) (W.alloc (.cells #[] 5)) W.heap.size 22 o.type 5 i0 _ 1 1 Ybaf.underlying22 hi hz0 hz1 hz2 rfl (by decide) _ 0 [] hown src m c (Lib.byteCells l) hnone (by rw [Lib.byteCells_length, hb.len]; omega) (hb.alloc _).cells (bytes_one l) (by unfold maxLen; omega) (by omega) (by simp)
  rw [Nat.zero_add] at h1
  have hne : v' ≠ .slice none 0 0 := fun e => by simpa using h3.1 e
  have h1' : w'.ownsRow W.heap.size 5 1 v' m (Lib.byteCells l) := by simpa using h1
  obtain ⟨g, cx, rfl⟩ : ∃ g cx, v' = .slice (some ⟨g, 0, none⟩) m cx := by
    rcases h1'.2 with ⟨e, _⟩ | ⟨g, cx, _, e, _⟩
    · exact absurd e hne
    · exact ⟨g, cx, e⟩
  unfold Oper.wp
  simp [execOp, ho, resolve, invoke, builtin, hs, hx, hr, Result.andThen]
  refine h g cx w' h1' ?_
  have hb1 : Below W.heap.size W (W.alloc (.cells #[] 5)) := (Below.refl _ _).alloc (Nat.le_refl _) _
  exact hb1.grown h2 hb1.size (fun k hk => by simp [Value.ownBlock] at hk; omega)

theorem step_call19 {ops : Array Oper} {o : Oper} {a : Act} {w : World} {K : Act → World → Prop} {Q : Exit → Act → World → Prop} {E : Prop} (hgd : o.guard = none) (x y z : Operand) (tys : Array TypeId)
    (ho : o.op = .call { callee := .value (.func 19), args := #[x, y, z], argTypes := tys }) (vx vy vz : Value) (hx : a.eval x = vx) (hy : a.eval y = vy) (hz : a.eval z = vz) {R : Ending → World → Prop} (hC : Calls Ybaf.prog 19 #[vx, vy, vz] w R)
    (hR : ∀ e w', R e w' → ∃ v, e = .returned v ∧ K (a.put o.dst v) w') :
    if Region.wanted o (yielded ops a.tmps) = true then Oper.wp Ybaf.prog o a w K Q else E := by
  have hw : Region.wanted o (yielded ops a.tmps) = true := by simp [Region.wanted, hgd]
  rw [if_pos hw]
  have eg : ∀ args w, (callFunc 19 args).run Ybaf.prog w = .ok (.enter 19 args) w := enters_of Ybaf.func19 (by kernel_rfl) rfl
  have hrun : (execOp a.eval o).run Ybaf.prog w = .ok (.enter 19 #[vx, vy, vz]) w := by
    have hf : a.eval (.func 19) = Value.func (Fn.func 19) #[] #[] := rfl
    unfold execOp
    simp [ho, resolve, invoke, Deferred.ofValue, hx, hy, hz, hf, eg]
  unfold Oper.wp
  rw [hrun, Oper.upon_enter]
  refine hC.mono fun e w' h => ?_
  obtain ⟨v, rfl, hv⟩ := hR e w' h
  exact hv

theorem ownsRow_key {w : World} {B g cx k : Nat} (h : w.ownsRow B 5 1 (.slice (some ⟨g, 0, none⟩) 2 cx) 2 (Lib.byteCells (keyB k))) (hk : k < 40) : KeyAt w (.slice (some ⟨g, 0, none⟩) 2 cx) k := by
  obtain ⟨a, c, e, h2⟩ := ownsRow_bytes h
  simp only [Value.slice.injEq, true_and] at e
  obtain ⟨rfl, rfl⟩ := e
  refine ⟨_, _, rfl, h2, hk, ?_⟩
  rcases h.2 with ⟨e, _⟩ | ⟨g', cap, cur, e, r⟩
  · cases e
  · simp only [Value.slice.injEq, true_and] at e
    obtain ⟨-, rfl⟩ := e
    exact r.2.2.1

/-- What the session is, behind a write. -/
def SessPost (w : World) (sb mb n : Nat) (st : Addr) (W : Nat → Bool) (P : List Ent → Prop) (w' : World) : Prop :=
  ∃ p' L', Sess w' sb st (.pointer p') mb ∧ TreeE w' (.pointer p') L' ∧ P L' ∧ MapE w' mb n W ∧ But2 sb mb w w'

theorem val_of {w : World} {B g n cx : Nat} {l : List UInt8} (h : w.ownsRow B 5 1 (.slice (some ⟨g, 0, none⟩) n cx) n (Lib.byteCells l)) : ValAt w (.slice (some ⟨g, 0, none⟩) n cx) l := by
  obtain ⟨a, c, e, h2⟩ := ownsRow_bytes h
  exact ⟨a, n, c, e, h2⟩
theorem sess_set {w w3 : World} {sb mb n k : Nat} {st : Addr} {root p' : Option Addr} {L' : List Ent} {W : Nat → Bool} {P : List Ent → Prop} {kv : Value} (h : Sess w3 sb st (.pointer root) mb ∧ TreeE w3 (.pointer p') L' ∧ P L' ∧ MapE w3 mb n W ∧ KeyAt w3 kv k ∧ Below w.heap.size w w3) :
    SessPost w sb mb n st W P (w3.setCell ⟨sb, 3, none⟩ (.pointer p')) ∧ KeyAt (w3.setCell ⟨sb, 3, none⟩ (.pointer p')) kv k := by
  obtain ⟨h1, h2, h3, h4, h5, h6⟩ := h
  have hf := h1.foreign ⟨_, rfl⟩
  have hne : mb ≠ sb := fun e => h4.ne (mb' := 0) h1 e.symm
  exact ⟨⟨p', L', h1.set, h2.other hf (But.cell _), h3, h4.block (Below.heap_setCell w3 ⟨sb, 3, none⟩ _ mb hne), (But2.of_below h6).trans (But2.keeps1 (Keeps.cell _))⟩, h5.other hf (But.cell _)⟩
theorem sess_map {w wc w2 : World} {sb mb n : Nat} {st : Addr} {W W' : Nat → Bool} {P : List Ent → Prop} (h : SessPost w sb mb n st W P wc) (hM : MapE w2 mb (n + 1) W') (hk : Keeps mb wc.drew w2) : SessPost w sb mb (n + 1) st W' P w2 := by
  obtain ⟨p', L', h1, h2, h3, h4, h5⟩ := h
  have hf := h4.foreign
  have hk' : Keeps mb wc w2 := hk
  have hne : sb ≠ mb := h4.ne (mb' := 0) h1
  exact ⟨p', L', (hk'.2.2.2.2 sb hne).trans h1, h2.other hf (But.of_keeps hk'), h3, hM, h5.trans (But2.keeps2 hk')⟩

set_option maxRecDepth 100000 in
set_option maxHeartbeats 4000000 in
theorem put_sess {w : World} {sb mb n k ck nv cv : Nat} {st : Addr} {root : Option Addr} {ak av : Option Addr} {L : List Ent} {b : List UInt8} {W : Nat → Bool} {v1 v2 : Value}
    (hS : Sess w sb st (.pointer root) mb) (hT : TreeE w (.pointer root) L) (hM : MapE w mb n W) (hn : n < 2000) (hk : KeyAt w (.slice ak 2 ck) k) (hb : BytesAt w av nv b) (hnone : av = none → nv = 0 ∧ cv = 0) (hnv : nv ≤ 1024) (hg1 : w.cell? ⟨1, 0, none⟩ = some v1) (hg2 : w.cell? ⟨2, 0, none⟩ = some v2) :
    Calls Ybaf.prog 10 #[.pointer (some ⟨sb, 0, none⟩), .slice ak 2 ck, .slice av nv cv] w fun e w' => e = .returned .nilIface ∧ Hid (SessPost w sb mb (n + 1) st (fun j => W j || decide (j = k)) (fun L' => Upd L L' k b) w') := by
  have HCW : Hid (Calls Ybaf.prog 18 #[.pointer (some ⟨sb, 0, none⟩), .slice ak 2 ck] w fun e w' => e = .returned .nilIface ∧ w' = w) := checkWrite_ok hS hg1
  have HCV : Hid (Calls Ybaf.prog 16 #[.slice av nv cv] w fun e w' => e = .returned .nilIface ∧ w' = w) := checkValue_ok (by omega) hg2
  have HS : Hid (Sess w sb st (.pointer root) mb) := hS
  have HT : Hid (TreeE w (.pointer root) L) := hT
  have HM : Hid (MapE w mb n W) := hM
  have HK : Hid (KeyAt w (.slice ak 2 ck) k) := hk
  have HKB : Hid (BytesAt w ak 2 (keyB k) ∧ k < 40) := by
    obtain ⟨a', c', e, h1, h2, h3⟩ := hk
    simp only [Value.slice.injEq, true_and] at e
    obtain ⟨rfl, rfl⟩ := e
    exact ⟨h1, h2⟩
  have HKN : Hid (ak = none → 2 = 0 ∧ ck = 0) := fun e => by
    subst e
    obtain ⟨h1, h2 | ⟨b', o, h, -⟩⟩ := HKB.out.1
    · omega
    · cases h
  have HB : Hid (BytesAt w av nv b) := hb
  have HN : Hid (av = none → nv = 0 ∧ cv = 0) := hnone
  clear hS hT hM hk hb hnone hg1 hg2
  go_enter Ybaf.func10, Ybaf.ntmps10
  go_wp2_with fail
  refine HCW.out.mono ?_
  rintro e w1 ⟨rfl, hw⟩
  have hw := hw.symm
  subst hw
  clear HCW
  go_wp2_with fail
  refine HCV.out.mono ?_
  rintro e w1 ⟨rfl, hw⟩
  have hw := hw.symm
  subst hw
  clear HCV
  go_upto_region 8 with (at_builtin; refine wpList_append_fresh w rfl (.tmp 20) (.tmp 21) rfl w.heap.size rfl rfl ak 2 ck (keyB k) rfl HKB.out.1 HKN.out (by omega) ?_; intro gx cx w1 hx hb1)
  have HKX : Hid (KeyAt w1 (.slice (some ⟨gx, 0, none⟩) 2 cx) k) := ownsRow_key hx HKB.out.2
  have HB1 : Hid (Below w.heap.size w w1) := hb1
  clear hx hb1
  have s3 : w1.cell? ⟨sb, 3, none⟩ = some (.pointer root) := (HS.out.below HB1.out).cells.2.2.1
  have ne3 : (w1.alloc (.cells #[] 5)).cell? ⟨sb, 3, none⟩ = some (.pointer root) := k1_of s3 ((Below.refl _ _).alloc (Nat.le_refl _) _)
  go_cut [33] from 23 to 34 (fun _ wx => Hid (SessPost w sb mb n st W (fun L' => Upd L L' k b) wx ∧ KeyAt wx (.slice (some ⟨gx, 0, none⟩) 2 cx) k))
  case first =>
    go_region_law (first | (refine step_append_fresh (W := w1.drew) rfl (.tmp 29) (.tmp 30) rfl (by simp [Act.eval]) av nv cv b (by simp [Act.eval]) (HB.out.below HB1.out.drew) HN.out (by omega) ?_; intro gy cy w2 hy hb2; have hb2' : Hid (Below w1.heap.size w1 w2) := ((Below.refl _ _).drew : Below w1.heap.size w1 w1.drew).trans hb2.out; have s4 : w2.cell? ⟨sb, 3, none⟩ = some (.pointer root) := k1_of (W := w1.drew) s3 hb2.out) | (refine step_call19 rfl (.tmp 27) (.tmp 28) (.tmp 31) #[57, 22, 22] rfl (.pointer root) (.slice (some ⟨gx, 0, none⟩) 2 cx) (.slice (some ⟨gy, 0, none⟩) nv cy) (by simp [Act.eval]) (by simp [Act.eval]) (by simp [Act.eval]) (insert_tree (HT.out.below (HB1.out.drew.trans (hb2.out.mono HB1.out.drew.size))) (HKX.out.below hb2'.out) (val_of hy.out)) ?_; rintro e w3 ⟨p', L', rfl, hT', hU, hb3⟩; refine ⟨_, rfl, ?_⟩; have s5 : w3.cell? ⟨sb, 3, none⟩ = some (.pointer root) := k1_of s4 hb3; have s6 : w3.frozen? ⟨sb, 3, none⟩ = false := (((HS.out.below HB1.out.drew).below hb2.out).below hb3).cells.2.2.2.2; have HP : Hid (Sess w3 sb st (.pointer root) mb ∧ TreeE w3 (.pointer p') L' ∧ Upd L L' k b ∧ MapE w3 mb n W ∧ KeyAt w3 (.slice (some ⟨gx, 0, none⟩) 2 cx) k ∧ Below w.heap.size w w3) := ⟨((HS.out.below HB1.out.drew).below hb2.out).below hb3, hT', hU, ((HM.out.below HB1.out.drew).below hb2.out).below hb3, (HKX.out.below hb2'.out).below hb3, (HB1.out.drew.trans (hb2.out.mono HB1.out.drew.size)).trans (hb3.mono (HB1.out.drew.trans (hb2.out.mono HB1.out.drew.size)).size)⟩; clear hT' hU hb3 hb2 hb2' hy))
    all_goals
      go_wp2_with fail
      go_meet
      exact sess_set HP.out
  case rest =>
    have HC : Hid (SessPost w sb mb n st W (fun L' => Upd L L' k b) wc ∧ KeyAt wc (.slice (some ⟨gx, 0, none⟩) 2 cx) k) := hcut
    clear hcut s3 ne3 HS HT HM HK HB HN HKX HB1
    obtain ⟨⟨p', L', hS', -, -, hM', -⟩, hK'⟩ := HC.out
    have s4 : wc.cell? ⟨sb, 4, none⟩ = some (.map (some mb)) := hS'.cells.2.2.2.1
    obtain ⟨w2, hrun, hM2, hk2⟩ := MapE.put (w := wc.drew) (k := k) (hM'.block rfl) (Nat.lt_of_lt_of_le hn (by decide)) HKB.out.2
    have hcv : (convert 22 9 (.slice (some ⟨gx, 0, none⟩) 2 cx)).run Ybaf.prog wc.drew = .ok (.string ⟨(keyB k).toArray⟩) wc.drew := by
      obtain ⟨a', c', e, h1, -⟩ := hK'
      simp only [Value.slice.injEq, true_and] at e
      obtain ⟨rfl, rfl⟩ := e
      exact BytesAt.convert (w := wc.drew) h1 _
    have HE : Hid (SessPost w sb mb (n + 1) st (fun j => W j || decide (j = k)) (fun L' => Upd L L' k b) w2) := sess_map HC.out.1 hM2 hk2
    clear hS' hM' hK' hM2 hk2 HC
    go_upto_region 9 with (fail)
    go_region
    all_goals
      go_wp2
      go_ret
      exact ⟨rfl, HE⟩

end Go.Proofs.YbulkbgzmFmt
