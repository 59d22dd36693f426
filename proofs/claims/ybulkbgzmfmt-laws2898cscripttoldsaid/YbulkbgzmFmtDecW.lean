/-
  'decodeWrites' BY A CONTRACT.
-/
import Derived.Test.YbulkbgzmFmtOps
namespace Go.Proofs.YbulkbgzmFmt
open Go.RowKit Go.Stop
set_option linter.unusedVariables false

/-- How decodeWrites ends. -/
def DecEnd (w : World) (l : List UInt8) (e : Ending) (w' : World) : Prop :=
  Below w.heap.size w w' ∧ ((dec l = none ∧ ∃ t y, e = .returned (.tuple #[.slice none 0 0, .iface t y])) ∨
    ∃ os v, dec l = some os ∧ e = .returned (.tuple #[v, .nilIface]) ∧ OpsAt w' w.heap.size v os ∧ (v = .slice none 0 0 ↔ os = []))

/-- At the loop's head: the writes that are gathered, the bytes that are left. -/
def DecInv (w wr : World) (l : List UInt8) (bv v : Value) (m : Nat) : Prop :=
  ∃ a n c r os, bv = .slice a n c ∧ m = n ∧ BytesAt w a n r ∧ n ≤ c ∧ dec l = (dec r).map (os ++ ·) ∧ os.length + r.length ≤ l.length ∧ OpsAt wr w.heap.size v os ∧ (v = .slice none 0 0 ↔ os = []) ∧ Below w.heap.size w wr

/-- b[0], b[1:]. -/
theorem BytesAt.cons {w : World} {a : Option Addr} {n : Nat} {k : UInt8} {t : List UInt8} (h : BytesAt w a n (k :: t)) :
    ∃ b o, a = some ⟨b, o, none⟩ ∧ n = t.length + 1 ∧ w.cell? ⟨b, o, none⟩ = some (.int .u8 k.toNat) ∧ BytesAt w (some ⟨b, o + 1, none⟩) t.length t := by
  have hn : n = t.length + 1 := by have := h.len; simpa using this.symm
  rcases h.2 with h0 | ⟨b, o, rfl, hc⟩
  · omega
  · refine ⟨b, o, rfl, hn, by have h0 := hc 0 (by simp); rw [Nat.add_zero] at h0; exact h0, ?_⟩
    have hp := h.piece 1 t.length (by omega)
    simpa using hp

theorem bel_call {B : Nat} {w wr w1 : World} {c : Array Value} (h : Below B w wr) (hB : B ≤ wr.heap.size) (hb : Below (wr.alloc (.cells c 31)).heap.size (wr.alloc (.cells c 31)) w1) : Below B w w1 :=
  (h.alloc hB _).trans (hb.mono (by simp; omega))
theorem dec_more {l r r1 : List UInt8} {os : List Wr} {o : Wr} (hd : dec l = (dec r).map (os ++ ·)) (h1 : wr1 r = some (o, r1)) : dec l = (dec r1).map ((os ++ [o]) ++ ·) := by
  rw [hd, dec_step h1, Option.map_map]
  congr 1
  funext x
  simp
/-- THE ROUND's END behind the append: one write more. -/
theorem DecInv.push {w WA w3 : World} {l r r1 : List UInt8} {os : List Wr} {o : Wr} {u v' : Value} {kv vv dv : Value} {a1 : Option Addr} {c1 : Nat} {cs : List Value}
    (hd : dec l = (dec r).map (os ++ ·)) (h1 : wr1 r = some (o, r1)) (hlen : os.length + r.length ≤ l.length) (hr : BytesAt w a1 r1.length r1) (hc1 : r1.length ≤ c1)
    (hown : WA.ownsRow w.heap.size 31 3 u os.length cs) (hcs : Cells WA w.heap.size os cs) (hA : Below w.heap.size w WA) (ho : OpCells WA w.heap.size o kv vv dv)
    (hown' : w3.ownsRow w.heap.size 31 3 v' (os.length + 1) (cs ++ [kv, vv, dv])) (hg : (WA.alloc (.cells #[kv, vv, dv] 31)).grownBy w3 u.ownBlock) (hnil : v' ≠ .slice none 0 0) :
    DecInv w w3 l (.slice a1 r1.length c1) v' r1.length := by
  refine ⟨a1, r1.length, c1, r1, os ++ [o], rfl, rfl, hr, hc1, dec_more hd h1, ?_, OpsAt.push hcs ho hown hown' hg, ?_, ?_⟩
  · have := wr1_len h1; simp; omega
  · simp [hnil]
  · exact (hA.alloc hA.size _).grown hg (by have := hA.size; simp; omega) (fun k hk => (hown.lt k hk).1)

theorem answers_below {F : Interp} {B : Nat} {w w' : World} (hF : F.answers w.tape) (h : Below B w w') : F.answers w'.tape := by rw [h.tape]; exact hF

set_option maxRecDepth 100000 in
set_option maxHeartbeats 4000000 in
theorem decodeWrites_any (F : Interp) (a : Option Addr) (n c : Nat) (l : List UInt8) (w : World) (hF : F.answers w.tape) (hS : Sen w) (h : BytesAt w a n l) (hnc : n ≤ c) (hn : n ≤ 1073741824) :
    Calls Ybaf.prog 7 #[.slice a n c] w (DecEnd w l) := by
  obtain ⟨i0, hi, hz0, hz1, hz2⟩ := info_parts info31
  have hll : l.length ≤ 1073741824 := by rw [h.len]; exact hn
  have H0 : Hid (DecInv w w l (.slice a n c) (.slice none 0 0) n) := ⟨a, n, c, l, [], rfl, rfl, h, hnc, by simp, by simp, OpsAt.nil _ _, by simp, Below.refl _ _⟩
  have HF : Hid (F.answers w.tape) := hF
  have HS : Hid (Sen w) := hS
  clear hF hS h hnc hn
  go_enter Ybaf.func7, Ybaf.ntmps7
  go_wp2
  go_loopw [0, 4] (fun bv v wr => ∃ m, Hid (DecInv w wr l bv v m)) (fun bv _ _ => match bv with | .slice _ n _ => n | _ => 0)
  case atStart => exact ⟨n, H0⟩
  case round =>
    clear H0
    obtain ⟨m, HI⟩ := hrel
    obtain ⟨a, n, c, r, os, rfl, hm, hB, hnc, hd, hlen, hO, hnil, hbel⟩ := HI.out
    clear HI hm
    cases r with
    | nil =>
      obtain rfl : n = 0 := by have := hB.len; simpa using this.symm
      have hfin : Hid (dec l = some os) := by show dec l = some os; rw [hd, dec_nil]; simp
      have HX : Hid (OpsAt wr w.heap.size u4 os ∧ (u4 = .slice none 0 0 ↔ os = []) ∧ Below w.heap.size w wr) := ⟨hO, hnil, hbel⟩
      clear hB hd hlen hO hnil hbel
      go_wp2
      go_ret2
      exact ⟨HX.out.2.2, .inr ⟨os, _, hfin.out, rfl, HX.out.1, HX.out.2.1⟩⟩
    | cons k t =>
      obtain ⟨b, o, rfl, rfl, hk, ht⟩ := hB.cons
      have hkw : wr.cell? ⟨b, o, none⟩ = some (.int .u8 k.toNat) := (hbel.cell (World.block_lt_of_cell? _ _ hk)).trans hk
      have hk256 := k.toNat_lt
      obtain ⟨d, rfl⟩ : ∃ d, c = d + 1 := ⟨c - 1, by omega⟩
      have HB : Hid (BytesAt w (some ⟨b, o + 1, none⟩) t.length t) := ht
      have HX : Hid (OpsAt wr w.heap.size u4 os ∧ (u4 = .slice none 0 0 ↔ os = []) ∧ Below w.heap.size w wr) := ⟨hO, hnil, hbel⟩
      have HD : Hid (dec l = (dec (k :: t)).map (os ++ ·)) := hd
      simp only [List.length_cons] at hlen
      clear hB hd hO hnil hbel hk ht
      cases hf : field t with
      | none =>
        have hfin : Hid (dec l = none) := by
          show dec l = none
          rw [HD.out, dec_stop (by simp) (by rw [wr1_cons, hf])]; rfl
        have HFd : Hid (field t = none) := hf
        clear HD hf
        by_cases hd0 : d = 0
        · subst hd0
          obtain rfl : t = [] := List.eq_nil_of_length_eq_zero (by omega)
          go_wp2_with fail
          refine (decodeBytes_err (BytesAt.nil _ _) (by omega) HFd.out).mono ?_
          rintro e w1 ⟨x, rfl, hb1⟩
          have hbx := box_there hb1
          have hc0 : w1.cell? ⟨wr.heap.size, 0, none⟩ = some (.slice none 0 0) := box_cell hbx 0
          have hf0 : w1.frozen? ⟨wr.heap.size, 0, none⟩ = false := box_free hbx 0
          have HE : Hid (Below w.heap.size w (w1.setCell ⟨wr.heap.size, 0, none⟩ (.slice none 0 0))) := (bel_call HX.out.2.2 HX.out.2.2.size hb1).setCell (p := ⟨wr.heap.size, 0, none⟩) HX.out.2.2.size _
          clear hb1 hbx HX
          go_wp2
          go_ret2
          exact ⟨HE.out, .inl ⟨hfin.out, _, _, rfl⟩⟩
        · go_wp2_with fail
          refine (decodeBytes_err ((HB.out.below HX.out.2.2).alloc _) (by omega) HFd.out).mono ?_
          rintro e w1 ⟨x, rfl, hb1⟩
          have hbx := box_there hb1
          have hc0 : w1.cell? ⟨wr.heap.size, 0, none⟩ = some (.slice none 0 0) := box_cell hbx 0
          have hf0 : w1.frozen? ⟨wr.heap.size, 0, none⟩ = false := box_free hbx 0
          have HE : Hid (Below w.heap.size w (w1.setCell ⟨wr.heap.size, 0, none⟩ (.slice none 0 0))) := (bel_call HX.out.2.2 HX.out.2.2.size hb1).setCell (p := ⟨wr.heap.size, 0, none⟩) HX.out.2.2.size _
          clear hb1 hbx HX
          go_wp2
          go_ret2
          exact ⟨HE.out, .inl ⟨hfin.out, _, _, rfl⟩⟩
      | some q =>
        obtain ⟨key, r1⟩ := q
        have hfl := field_len hf
        have HFd : Hid (field t = some (key, r1)) := hf
        clear hf
        have hd0 : ¬ d = 0 := by omega
        go_wp2_with fail
        refine (decodeBytes_ok ((HB.out.below HX.out.2.2).alloc _) (by omega) (by omega) HFd.out).mono ?_
        rintro e w1 ⟨ak, ck, a1, c1, rfl, hown, hak, hr1, hc1, hb1⟩
        have hbx := box_there hb1
        have hc0 : w1.cell? ⟨wr.heap.size, 0, none⟩ = some (.slice none 0 0) := box_cell hbx 0
        have hf0 : w1.frozen? ⟨wr.heap.size, 0, none⟩ = false := box_free hbx 0
        have HW0 : Hid (Below wr.heap.size wr (w1.setCell ⟨wr.heap.size, 0, none⟩ (.slice ak key.length ck))) := (bel_call (Below.refl wr.heap.size wr) (Nat.le_refl _) hb1).setCell (p := ⟨wr.heap.size, 0, none⟩) (Nat.le_refl _) _
        have HBX : Hid ((w1.setCell ⟨wr.heap.size, 0, none⟩ (.slice ak key.length ck)).heap[wr.heap.size]? = some (.cells #[.slice ak key.length ck, .slice none 0 0, .bool false] 31 (0, 0))) := box_set hbx 0 _
        have HKey : Hid (Owns (w1.setCell ⟨wr.heap.size, 0, none⟩ (.slice ak key.length ck)) w.heap.size (.slice ak key.length ck) key) :=
          Owns.setCell (ownsRow_base hown (by have := HX.out.2.2.size; simp; omega)) hbx
        have HR1 : Hid (BytesAt w a1 r1.length r1) := hr1 w HB.out
        have hcW : (w1.setCell ⟨wr.heap.size, 0, none⟩ (.slice ak key.length ck)).cell? ⟨wr.heap.size, 0, none⟩ = some (.slice ak key.length ck) := box_cell HBX.out 0
        clear hb1 hbx hown hr1
        go_wp2_with fail
        clear hc0 hf0 hkw
        generalize w1.setCell ⟨wr.heap.size, 0, none⟩ (.slice ak key.length ck) = W1 at *
        have HW1 : Hid (Below w.heap.size w W1) := HX.out.2.2.trans (HW0.out.mono HX.out.2.2.size)
        have HS1 : Hid (Sen W1) := HS.out.below HW1.out
        have HF1 : Hid (F.answers W1.tape) := answers_below HF.out HW1.out
        have HO1 : Hid (OpsAt W1 w.heap.size u4 os) := HX.out.1.below HW0.out
        have HNil : Hid (u4 = .slice none 0 0 ↔ os = []) := HX.out.2.1
        have hHlt : w.heap.size ≤ wr.heap.size := HX.out.2.2.size
        by_cases hbad : key.length = 0 ∨ 4096 < key.length
        · have hfin : Hid (dec l = none) := by
            show dec l = none
            rw [HD.out, dec_stop (by simp) (by rw [wr1_cons, HFd.out]; simp only; rw [if_pos hbad])]; rfl
          refine (checkKey_err F HF1.out HS1.out (by omega) hbad).mono ?_
          rintro e w2 ⟨⟨ty, z, rfl⟩, hb2⟩
          have HE : Hid (Below w.heap.size w w2) := HW1.out.trans (hb2.mono HW1.out.size)
          clear hb2 HBX HKey HR1 hcW HW1 HS1 HF1 HO1 HNil HD HFd hbad
          go_wp2
          go_ret2
          exact ⟨HE.out, .inl ⟨hfin.out, _, _, rfl⟩⟩
        · obtain ⟨s1, hs1⟩ : ∃ v, W1.cell? ⟨1, 0, none⟩ = some v := by obtain ⟨a, s, h1, _⟩ := HS1.out 1 (by omega); exact ⟨_, h1⟩
          refine (checkKey_ok (v1 := s1) (by omega) (by omega) hs1).mono ?_
          rintro e w2 ⟨rfl, rfl⟩
          clear hs1
          by_cases hk1 : k = 1
          · have hk1' : ((k.toNat : Int) == 1) = true := by rw [hk1]; rfl
            cases hf2 : field r1 with
            | none =>
              have hfin : Hid (dec l = none) := by
                show dec l = none
                rw [HD.out, dec_stop (by simp) (by rw [wr1_cons, HFd.out]; simp only; rw [if_neg hbad, if_pos hk1, hf2])]; rfl
              have HF2 : Hid (field r1 = none) := hf2
              clear hf2 hk1 HD HFd hbad
              go_wp2_with fail
              refine (decodeBytes_err (HR1.out.below HW1.out) (by omega) HF2.out).mono ?_
              rintro e w3 ⟨x, rfl, hb3⟩
              have hbx3 : w3.heap[wr.heap.size]? = some (.cells #[.slice ak key.length ck, .slice none 0 0, .bool false] 31 (0, 0)) := (hb3.block wr.heap.size (lt_of_block HBX.out)).trans HBX.out
              have hc3 : w3.cell? ⟨wr.heap.size, 1, none⟩ = some (.slice none 0 0) := box_cell hbx3 1
              have hf3 : w3.frozen? ⟨wr.heap.size, 1, none⟩ = false := box_free hbx3 1
              have HE : Hid (Below w.heap.size w (w3.setCell ⟨wr.heap.size, 1, none⟩ (.slice none 0 0))) := (HW1.out.trans (hb3.mono HW1.out.size)).setCell (p := ⟨wr.heap.size, 1, none⟩) hHlt _
              clear hb3 hbx3 HBX HKey HR1 HO1 HNil HW1 HS1 HF1 HW0 HX hcW
              go_wp2
              go_ret2
              exact ⟨HE.out, .inl ⟨hfin.out, _, _, rfl⟩⟩
            | some q2 =>
              obtain ⟨val, r2⟩ := q2
              have hfl2 := field_len hf2
              have HF2 : Hid (field r1 = some (val, r2)) := hf2
              clear hf2
              go_wp2_with fail
              refine (decodeBytes_ok (HR1.out.below HW1.out) hc1 (by omega) HF2.out).mono ?_
              rintro e w3 ⟨av, cv, a2, c2, rfl, hown2, hav, hr2, hc2, hb3⟩
              have hbx3 : w3.heap[wr.heap.size]? = some (.cells #[.slice ak key.length ck, .slice none 0 0, .bool false] 31 (0, 0)) := (hb3.block wr.heap.size (lt_of_block HBX.out)).trans HBX.out
              have hc3 : w3.cell? ⟨wr.heap.size, 1, none⟩ = some (.slice none 0 0) := box_cell hbx3 1
              have hf3 : w3.frozen? ⟨wr.heap.size, 1, none⟩ = false := box_free hbx3 1
              have HW3 : Hid (Below wr.heap.size wr (w3.setCell ⟨wr.heap.size, 1, none⟩ (.slice av val.length cv))) := (HW0.out.trans (hb3.mono HW0.out.size)).setCell (p := ⟨wr.heap.size, 1, none⟩) (Nat.le_refl _) _
              have HBX3 : Hid ((w3.setCell ⟨wr.heap.size, 1, none⟩ (.slice av val.length cv)).heap[wr.heap.size]? = some (.cells #[.slice ak key.length ck, .slice av val.length cv, .bool false] 31 (0, 0))) := box_set hbx3 1 _
              have HKey3 : Hid (Owns (w3.setCell ⟨wr.heap.size, 1, none⟩ (.slice av val.length cv)) w.heap.size (.slice ak key.length ck) key) := Owns.setCell (HKey.out.below hb3) hbx3
              have HVal3 : Hid (Owns (w3.setCell ⟨wr.heap.size, 1, none⟩ (.slice av val.length cv)) w.heap.size (.slice av val.length cv) val) := Owns.setCell (ownsRow_base hown2 HW1.out.size) hbx3
              have HR2 : Hid (BytesAt w a2 r2.length r2) := hr2 w HR1.out
              have hcW3 : (w3.setCell ⟨wr.heap.size, 1, none⟩ (.slice av val.length cv)).cell? ⟨wr.heap.size, 1, none⟩ = some (.slice av val.length cv) := box_cell HBX3.out 1
              clear hb3 hbx3 hown2 hr2 HBX HKey HR1 HO1 HNil HS1 HF1 HW0 hcW
              go_wp2_with fail
              clear hc3 hf3 hcW3
              generalize w3.setCell ⟨wr.heap.size, 1, none⟩ (.slice av val.length cv) = W3 at *
              have HW4 : Hid (Below w.heap.size w W3) := HX.out.2.2.trans (HW3.out.mono HX.out.2.2.size)
              have HS3 : Hid (Sen W3) := HS.out.below HW4.out
              have HF3 : Hid (F.answers W3.tape) := answers_below HF.out HW4.out
              clear HW1
              by_cases hlong : 16777216 < val.length
              · have hfin : Hid (dec l = none) := by
                  show dec l = none
                  rw [HD.out, dec_stop (by simp) (by rw [wr1_cons, HFd.out]; simp only; rw [if_neg hbad, if_pos hk1, HF2.out]; simp only; rw [if_pos hlong])]; rfl
                refine (checkValue_err F HF3.out HS3.out (by omega) hlong).mono ?_
                rintro e w4 ⟨⟨ty, z, rfl⟩, hb4⟩
                have HE : Hid (Below w.heap.size w w4) := HW4.out.trans (hb4.mono HW4.out.size)
                clear hb4 HBX3 HKey3 HVal3 HR2 HW3 HW4 HS3 HF3 HX HD HFd HF2 hk1 hbad
                go_wp2
                go_ret2
                exact ⟨HE.out, .inl ⟨hfin.out, _, _, rfl⟩⟩
              · have h1 : Hid (wr1 (k :: t) = some (⟨key, some val⟩, r2)) := by
                  show wr1 (k :: t) = _
                  rw [wr1_cons, HFd.out]; simp only; rw [if_neg hbad, if_pos hk1, HF2.out]; simp only; rw [if_neg hlong]
                obtain ⟨s2, hs2⟩ : ∃ v, W3.cell? ⟨2, 0, none⟩ = some v := by obtain ⟨a, s, h1, _⟩ := HS3.out 2 (by omega); exact ⟨_, h1⟩
                refine (checkValue_ok (v2 := s2) (by omega) hs2).mono ?_
                rintro e w4 ⟨rfl, rfl⟩
                clear hs2
                obtain ⟨cs, hown, hcs⟩ := HX.out.1.below HW3.out
                have hd0' : w4.cell? ⟨wr.heap.size, 0, none⟩ = some (.slice ak key.length ck) := box_cell HBX3.out 0
                have hd1 : w4.cell? ⟨wr.heap.size, 1, none⟩ = some (.slice av val.length cv) := box_cell HBX3.out 1
                have hd2 : w4.cell? ⟨wr.heap.size, 2, none⟩ = some (.bool false) := box_cell HBX3.out 2
                have HOc : Hid (OpCells w4 w.heap.size ⟨key, some val⟩ (.slice ak key.length ck) (.slice av val.length cv) (.bool false)) :=
                  ⟨HKey3.out, rfl, fun h => by simp at h, fun x hx => by simp at hx; subst hx; exact HVal3.out⟩
                have HOwn : Hid (w4.ownsRow w.heap.size 31 3 u4 os.length cs) := hown
                have HCs : Hid (Cells w4 w.heap.size os cs) := hcs
                clear hcs hown HBX3 HKey3 HVal3 HW3 HS3 HF3 HX hbad hlong hk1 HF2
                go_wp2_with (at_builtin; refine wpList_append_op w4 rfl _ _ rfl w.heap.size os.length w4.heap.size u4 (.slice ak key.length ck) (.slice av val.length cv) (.bool false) cs rfl rfl HOwn.out rfl rfl rfl rfl (by omega) HW4.out.size ?_; intro v' w5 hown' hg hv')
                have HI : Hid (DecInv w w5 l (.slice a2 r2.length c2) v' r2.length) := DecInv.push HD.out h1.out (by simp; omega) HR2.out hc2 HOwn.out HCs.out HW4.out HOc.out hown' hg hv'
                clear hown' hg hv' HOwn HCs HW4 HOc HD h1 HR2 HFd
                go_wp2
                go_roundw
                case rel => exact ⟨_, HI⟩
                case measure => simp; omega
          · have hk1' : ((k.toNat : Int) == 1) = false := by
              rw [beq_eq_false_iff_ne]; intro e; exact hk1 (UInt8.toNat_inj.1 (show k.toNat = 1 by omega))
            by_cases hk2 : k = 2
            · have hk2' : ((k.toNat : Int) == 2) = true := by rw [hk2]; rfl
              have h1 : Hid (wr1 (k :: t) = some (⟨key, none⟩, r1)) := by
                show wr1 (k :: t) = _
                rw [wr1_cons, HFd.out]; simp only; rw [if_neg hbad, if_neg hk1, if_pos hk2]
              have hc1' : w2.cell? ⟨wr.heap.size, 1, none⟩ = some (.slice none 0 0) := box_cell HBX.out 1
              have hc2 : w2.cell? ⟨wr.heap.size, 2, none⟩ = some (.bool false) := box_cell HBX.out 2
              have hf2 : w2.frozen? ⟨wr.heap.size, 2, none⟩ = false := box_free HBX.out 2
              have hOA : OpsAt (w2.setCell ⟨wr.heap.size, 2, none⟩ (.bool true)) w.heap.size u4 os := HX.out.1.below (HW0.out.setCell (p := ⟨wr.heap.size, 2, none⟩) (Nat.le_refl _) _)
              obtain ⟨cs, hown, hcs⟩ := hOA
              have HCs : Hid (Cells (w2.setCell ⟨wr.heap.size, 2, none⟩ (.bool true)) w.heap.size os cs) := hcs
              have HA : Hid (Below w.heap.size w (w2.setCell ⟨wr.heap.size, 2, none⟩ (.bool true))) := HW1.out.setCell (p := ⟨wr.heap.size, 2, none⟩) hHlt _
              have HOc : Hid (OpCells (w2.setCell ⟨wr.heap.size, 2, none⟩ (.bool true)) w.heap.size ⟨key, none⟩ (.slice ak key.length ck) (.slice none 0 0) (.bool true)) :=
                ⟨HKey.out.setCell HBX.out, rfl, fun _ => rfl, fun x hx => by cases hx⟩
              have HOwn : Hid ((w2.setCell ⟨wr.heap.size, 2, none⟩ (.bool true)).ownsRow w.heap.size 31 3 u4 os.length cs) := hown
              clear hcs hown HBX HKey HO1 HNil HW1 HS1 HF1 HW0 HX hbad
              go_wp2_with (at_builtin; refine wpList_append_op (w2.setCell ⟨wr.heap.size, 2, none⟩ (.bool true)) rfl _ _ rfl w.heap.size os.length w2.heap.size u4 (.slice ak key.length ck) (.slice none 0 0) (.bool true) cs (by simp) rfl HOwn.out rfl rfl rfl rfl (by omega) HA.out.size ?_; intro v' w3 hown' hg hv')
              have HI : Hid (DecInv w w3 l (.slice a1 r1.length c1) v' r1.length) := DecInv.push HD.out h1.out (by simp; omega) HR1.out hc1 HOwn.out HCs.out HA.out HOc.out hown' hg hv'
              clear hown' hg hv' HOwn HCs HA HOc HD h1 HR1 HFd
              go_wp2
              go_roundw
              case rel => exact ⟨_, HI⟩
              case measure => simp; omega
            · have hk2' : ((k.toNat : Int) == 2) = false := by
                rw [beq_eq_false_iff_ne]; intro e; exact hk2 (UInt8.toNat_inj.1 (show k.toNat = 2 by omega))
              have hfin : Hid (dec l = none) := by
                show dec l = none
                rw [HD.out, dec_stop (by simp) (by rw [wr1_cons, HFd.out]; simp only; rw [if_neg hbad, if_neg hk1, if_neg hk2])]; rfl
              clear HBX HKey HO1 HNil HS1 HW0 HX hbad HD HFd HR1 hk1 hk2
              go_wp2_with fail
              refine (errorf_kind F k.toNat _ _ (by exact HF1.out) (by go_simp)).mono ?_
              rintro e w3 ⟨⟨ty, z, rfl⟩, hb3⟩
              have HE : Hid (Below w.heap.size w w3) := (HW1.out.alloc HW1.out.size _).trans (hb3.mono (by have := HW1.out.size; simp; omega))
              clear hb3 HW1 HF1
              go_wp2
              go_ret2
              exact ⟨HE.out, .inl ⟨hfin.out, _, _, rfl⟩⟩

end Go.Proofs.YbulkbgzmFmt
