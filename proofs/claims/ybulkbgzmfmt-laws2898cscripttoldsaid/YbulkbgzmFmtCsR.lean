/-
  CScript: 'Session.Delete'.
-/
import Derived.Test.YbulkbgzmFmtCsQ
namespace Go.Proofs.YbulkbgzmFmt
open Go.RowKit Go.Stop
set_option linter.unusedVariables false

set_option maxRecDepth 100000 in
set_option maxHeartbeats 4000000 in
theorem del_sess {w : World} {sb mb n k ck : Nat} {st : Addr} {root : Option Addr} {ak : Option Addr} {L : List Ent} {W : Nat → Bool} {v1 : Value}
    (hS : Sess w sb st (.pointer root) mb) (hT : TreeE w (.pointer root) L) (hM : MapE w mb n W) (hn : n < 2000) (hk : KeyAt w (.slice ak 2 ck) k) (hg1 : w.cell? ⟨1, 0, none⟩ = some v1) :
    Calls Ybaf.prog 11 #[.pointer (some ⟨sb, 0, none⟩), .slice ak 2 ck] w fun e w' => e = .returned .nilIface ∧ Hid (SessPost w sb mb (n + 1) st (fun j => W j || decide (j = k)) (fun L' => Del L L' k) w') := by
  have HCW : Hid (Calls Ybaf.prog 18 #[.pointer (some ⟨sb, 0, none⟩), .slice ak 2 ck] w fun e w' => e = .returned .nilIface ∧ w' = w) := checkWrite_ok hS hg1
  have HR : Hid (Calls Ybaf.prog 20 #[.pointer root, .slice ak 2 ck] w (RemPost w L k)) := remove_tree hT hk
  have HS : Hid (Sess w sb st (.pointer root) mb) := hS
  have HM : Hid (MapE w mb n W) := hM
  have HK : Hid (KeyAt w (.slice ak 2 ck) k) := hk
  have s3 : w.cell? ⟨sb, 3, none⟩ = some (.pointer root) := hS.cells.2.2.1
  clear hS hT hM hk hg1
  go_enter Ybaf.func11, Ybaf.ntmps11
  go_wp2_with fail
  refine HCW.out.mono ?_
  rintro e w1 ⟨rfl, hw⟩
  have hw := hw.symm
  subst hw
  clear HCW
  go_wp2_with fail
  refine HR.out.mono ?_
  rintro e w3 ⟨p', L', rfl, hT', hU, hb3⟩
  have s5 : w3.cell? ⟨sb, 3, none⟩ = some (.pointer root) := k1_of s3 hb3
  have s6 : w3.frozen? ⟨sb, 3, none⟩ = false := (HS.out.below hb3).cells.2.2.2.2
  have HP : Hid (SessPost w sb mb n st W (fun L' => Del L L' k) (w3.setCell ⟨sb, 3, none⟩ (.pointer p')) ∧ KeyAt (w3.setCell ⟨sb, 3, none⟩ (.pointer p')) (.slice ak 2 ck) k) := sess_set ⟨HS.out.below hb3, hT', hU, HM.out.below hb3, HK.out.below hb3, hb3⟩
  clear hT' hU hb3 HR HS HM HK s3
  go_upto_region 5 with (fail)
  clear s5 s6
  generalize w3.setCell ⟨sb, 3, none⟩ (.pointer p') = wc at *
  obtain ⟨⟨p2, L2, hS', -, -, hM', -⟩, hK'⟩ := HP.out
  have hk40 : k < 40 := by
    obtain ⟨a', c', e, h1, h2, h3⟩ := hK'
    exact h2
  have s4 : wc.cell? ⟨sb, 4, none⟩ = some (.map (some mb)) := hS'.cells.2.2.2.1
  obtain ⟨w2, hrun, hM2, hk2⟩ := MapE.put (w := wc.drew) (k := k) (hM'.block rfl) (Nat.lt_of_lt_of_le hn (by decide)) hk40
  have hcv : (convert 22 9 (.slice ak 2 ck)).run Ybaf.prog wc.drew = .ok (.string ⟨(keyB k).toArray⟩) wc.drew := by
    obtain ⟨a', c', e, h1, -⟩ := hK'
    simp only [Value.slice.injEq, true_and] at e
    obtain ⟨rfl, rfl⟩ := e
    exact BytesAt.convert (w := wc.drew) h1 _
  have HE : Hid (SessPost w sb mb (n + 1) st (fun j => W j || decide (j = k)) (fun L' => Del L L' k) w2) := sess_map HP.out.1 hM2 hk2
  clear hS' hM' hK' hM2 hk2 HP
  go_region
  all_goals
    go_wp2
    go_ret
    exact ⟨rfl, HE⟩

end Go.Proofs.YbulkbgzmFmt
