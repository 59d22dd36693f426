/-
  'LawS2898ARoundTrip': THE WALK.
-/
import Derived.Test.YbulkbgzmFmtRT3
import Derived.Deep.DeepCutAuto
import Derived.Deep.QuietTactic
import Derived.BigQuiet
import Derived.WalkSpells
namespace Go.Proofs.YbulkbgzmFmt
open Go.RowKit Go.Stop
set_option linter.unusedVariables false

theorem info22 : (Ybaf.prog.info? 22).map (fun i => (i.zero, i.size, i.bytes)) = some (some (.slice none 0 0), 1, 24) := by kernel_rfl

/-- A slice of bytes that came in. -/
def SlIn (w : World) (v : Value) (l : List UInt8) : Prop := ∃ a n c, v = .slice a n c ∧ BytesAt w a n l ∧ n ≤ c ∧ (a = none → n = 0 ∧ c = 0) ∧ n ≤ 9223372036854775807

/-- The law's argument: the i-th struct's three cells. -/
def InAt (w : World) (b off : Nat) (ds : List Inp) : Prop :=
  ∀ i (hi : i < ds.length), w.cell? ⟨b, off + i * 3, none⟩ = some (.bool ds[i].del) ∧ (∃ kv, w.cell? ⟨b, off + i * 3 + 1, none⟩ = some kv ∧ SlIn w kv ds[i].key) ∧ ∃ vv, w.cell? ⟨b, off + i * 3 + 2, none⟩ = some vv ∧ SlIn w vv ds[i].val

/-- k behind 'if len(k) == 0 { k = []byte{'k'} }'. -/
def keyA (k : List UInt8) : List UInt8 := if k.length = 0 then [107] else k
theorem keyOf_A (k : List UInt8) : (keyA k).take 4096 = keyOf k := by unfold keyA keyOf; split <;> simp
theorem bytes_k (w : World) : BytesAt (w.alloc (.cells #[.int .u8 107] 5)) (some ⟨w.heap.size, 0, none⟩) 1 [107] := by
  refine ⟨rfl, .inr ⟨w.heap.size, 0, rfl, fun j hj => ?_⟩⟩
  obtain rfl : j = 0 := by simpa using hj
  rw [Nat.zero_add, World.cell?_alloc_new]
  rfl
theorem BytesAt.cut {w : World} {a : Option Addr} {n : Nat} {l : List UInt8} (h : BytesAt w a n l) (m : Nat) (hm : m ≤ n) : BytesAt w a m (l.take m) := by
  rcases h.2 with h0 | ⟨b, o, rfl, hc⟩
  · exact ⟨by have := h.len; simp; omega, .inl (by omega)⟩
  · have := h.piece 0 m (by omega)
    simpa using this

set_option maxRecDepth 100000 in
set_option maxHeartbeats 2000000 in
theorem rt_core (F : Interp) (n cap b off : Nat) (ds : List Inp) (w : World) (hF : F.answers w.tape) (hS : Sen w) (hn : n ≤ 1024) (hn0 : 0 < n) (hlen : ds.length = n) (hin : InAt w b off ds) :
    Calls Ybaf.prog 4 #[.slice (some ⟨b, off, none⟩) n cap] w fun e w' => e = .returned (.bool true) ∧ Below w.heap.size w w' := by
  have hmk := run_make_row' (P := Ybaf.prog) 35 22 (.slice none 0 0) 24 Ybaf.underlying35 info22 rfl .i64 .i64 n (by omega) (by omega)
  have hg : ¬ (1024 : Int) < (n : Int) := by omega
  have HF : Hid (F.answers w.tape) := hF
  have HS : Hid (Sen w) := hS
  have HI : Hid (InAt w b off ds) := hin
  have HL : Hid (ds.length = n) := hlen
  obtain ⟨ks, hks⟩ : ∃ ks : Nat → List UInt8, ∀ j (hj : j < ds.length), ks j = keyOf ds[j].key := ⟨fun j => if hj : j < ds.length then keyOf ds[j].key else [], fun j hj => by simp [hj]⟩
  obtain ⟨vs, hvs⟩ : ∃ vs : Nat → List UInt8, ∀ j (hj : j < ds.length), vs j = valOf ds[j].val := ⟨fun j => if hj : j < ds.length then valOf ds[j].val else [], fun j hj => by simp [hj]⟩
  have HK : Hid (∀ j (hj : j < ds.length), ks j = keyOf ds[j].key) := hks
  have HV : Hid (∀ j (hj : j < ds.length), vs j = valOf ds[j].val) := hvs
  clear hF hS hin hks hvs hlen
  go_enter Ybaf.func4, Ybaf.ntmps4
  go_wp2
  have H0 : Hid (St w ((w.alloc (.cells (madeCells #[.slice none 0 0] n) 22)).alloc (.cells (madeCells #[.slice none 0 0] n) 22)) w.heap.size n 0 0 ks vs (.slice none 0 0) []) := by
    refine ⟨fun _ => .slice none 0 0, fun _ => .slice none 0 0, (World.rowIs_made w (.slice none 0 0) n 22).alloc _, ?_, fun j hj => absurd hj (by omega), fun j hj => absurd hj (by omega), World.ownsRow_nil _ _ _ _, ((Below.refl _ _).alloc (Nat.le_refl _) _).alloc (by simp) _⟩
    have h := World.rowIs_made (w.alloc (.cells (madeCells #[.slice none 0 0] n) 22)) (.slice none 0 0) n 22
    rw [show (w.alloc (.cells (madeCells #[.slice none 0 0] n) 22)).heap.size = w.heap.size + 1 by simp] at h
    exact h
  go_loopw [5, 6] (fun v iv wr => ∃ i : Nat, i ≤ n ∧ iv = .int .i64 i ∧ Hid (St w wr w.heap.size n i i ks vs v (encAll ((ds.take i).map toWr)))) (fun _ iv _ => n - (intOf iv).toNat)
  case atStart => exact ⟨0, Nat.zero_le _, rfl, H0⟩
  case round =>
    clear H0 hmk
    obtain ⟨i, hin, rfl, HSt⟩ := hrel
    by_cases hlt : i < n
    · have hid : i < ds.length := by rw [HL.out]; exact hlt
      have hbel : Below w.heap.size w wr := by obtain ⟨_, _, _, _, _, _, _, h⟩ := HSt.out; exact h
      obtain ⟨h1, ⟨kv, h2, hkv⟩, vv, h3, hvv⟩ := HI.out i hid
      have g1 : wr.cell? ⟨b, off + i * 3, none⟩ = some (.bool ds[i].del) := (hbel.cell (World.block_lt_of_cell? _ _ h1)).trans h1
      have g2 : wr.cell? ⟨b, off + i * 3 + 1, none⟩ = some kv := (hbel.cell (World.block_lt_of_cell? _ _ h2)).trans h2
      have g3 : wr.cell? ⟨b, off + i * 3 + 2, none⟩ = some vv := (hbel.cell (World.block_lt_of_cell? _ _ h3)).trans h3
      obtain ⟨ak, nk, ck, rfl, hbk, hck, hnk, hnk2⟩ := hkv
      clear h1 h2 h3
      have HVV : Hid (SlIn w vv ds[i].val) := hvv
      have HBK : Hid (BytesAt w ak nk ds[i].key) := hbk
      have hkl : ds[i].key.length = nk := hbk.len
      have HBel : Hid (Below w.heap.size w wr) := hbel
      have hBs : w.heap.size ≤ wr.heap.size := hbel.size
      clear hvv hbk hbel
      go_upto_if 35 with (fail)
      go_cut [7] (fun k7 wx => ∃ a m c, k7 = .slice a m c ∧ Hid (BytesAt wx a m (keyA ds[i].key)) ∧ m ≤ c ∧ m ≤ 9223372036854775807 ∧ 0 < m ∧ Hid (a = none → m = 0 ∧ c = 0) ∧ Hid (Below wr.heap.size wr wx) ∧ Hid (∃ g o, a = some ⟨g, o, none⟩ ∧ (g < w.heap.size ∨ (wr.heap.size ≤ g ∧ g < wx.heap.size))))
      case first =>
        by_cases hz : nk = 0
        · have e : keyA ds[i].key = [107] := by unfold keyA; rw [if_pos (by omega)]
          have HE : Hid (keyA ds[i].key = [107]) := e
          clear e
          subst hz
          go_wp2
          go_meet
          case rel => exact ⟨_, 1, 1, rfl, (by rw [HE.out]; exact bytes_k wr : BytesAt _ _ _ _), Nat.le_refl _, by omega, by omega, (fun h => by cases h), (Below.refl _ _).alloc (Nat.le_refl _) _, ⟨_, _, rfl, .inr ⟨Nat.le_refl _, by simp⟩⟩⟩
        · have e : keyA ds[i].key = ds[i].key := by unfold keyA; rw [if_neg (by omega)]
          have HE : Hid (keyA ds[i].key = ds[i].key) := e
          clear e
          have hz' : ((nk : Int) == 0) = false := by simp; omega
          have HAd : Hid (∃ g o, ak = some ⟨g, o, none⟩ ∧ (g < w.heap.size ∨ (wr.heap.size ≤ g ∧ g < wr.heap.size))) := by
            rcases HBK.out.2 with h0 | ⟨g, o, e, hc⟩
            · exact absurd h0 hz
            · exact ⟨g, o, e, .inl (World.block_lt_of_cell? w ⟨g, o + 0, none⟩ (hc 0 (by rw [HBK.out.len]; omega)))⟩
          go_wp2
          go_meet
          case rel => exact ⟨_, nk, ck, rfl, (by rw [HE.out]; exact HBK.out.below HBel.out : BytesAt _ _ _ _), hck, hnk2, by omega, hnk, Below.refl _ _, HAd⟩
      case rest =>
        obtain ⟨ak1, m1, ck1, rfl, HB1, hm1, hm2, hm0, HN1, HW1, HAd⟩ := hcut
        clear HBK hnk hck hkl g2
        have g1' : wc.cell? ⟨b, off + i * 3, none⟩ = some (.bool ds[i].del) := (HW1.out.cell (World.block_lt_of_cell? _ _ g1)).trans g1
        have g3' : wc.cell? ⟨b, off + i * 3 + 2, none⟩ = some vv := (HW1.out.cell (World.block_lt_of_cell? _ _ g3)).trans g3
        clear g1 g3
        go_upto_if 39 with (fail)
        go_cut [7] (fun k7 wx => wx = wc ∧ ∃ m, k7 = .slice ak1 m ck1 ∧ Hid (BytesAt wc ak1 m (keyOf ds[i].key)) ∧ m ≤ 4096 ∧ 0 < m ∧ Hid (ak1 = none → m = 0 ∧ ck1 = 0))
        case first =>
          by_cases hbig : 4096 < m1
          · have hbig' : (4096 : Int) < (m1 : Int) := by omega
            have hck : (4096 : Int) ≤ (ck1 : Int) := by omega
            go_wp2
            go_meet
            case rel => exact ⟨rfl, 4096, rfl, (by rw [← keyOf_A]; exact HB1.out.cut 4096 (by omega) : BytesAt _ _ _ _), Nat.le_refl _, by omega, (fun h => by have := HN1.out h; omega)⟩
          · have hbig' : ¬ (4096 : Int) < (m1 : Int) := by omega
            go_wp2
            go_meet
            case rel => exact ⟨rfl, m1, rfl, (by rw [← keyOf_A, List.take_of_length_le (by rw [HB1.out.len]; omega)]; exact HB1.out : BytesAt _ _ _ _), by omega, hm0, HN1⟩
        case rest =>
          obtain ⟨hwc, mk, rfl, HK1, hmk1, hmk2, HN2⟩ := hcut
          subst hwc
          clear HB1 HN1
          obtain ⟨av, nv, cv, rfl, hbv, hcv, hnv, hnv2⟩ := HVV.out
          have HBV : Hid (BytesAt w av nv ds[i].val) := hbv
          have HNV : Hid (av = none → nv = 0 ∧ cv = 0) := hnv
          clear HVV hbv hnv
          go_upto_if 49 with (fail)
          go_cut [8] (fun v8 wx => wx = wc ∧ ∃ m, v8 = .slice av m cv ∧ Hid (BytesAt w av m (valOf ds[i].val)) ∧ m ≤ 65536 ∧ Hid (av = none → m = 0 ∧ cv = 0))
          case first =>
            by_cases hbig : 65536 < nv
            · have hbig' : (65536 : Int) < (nv : Int) := by omega
              have hck : (65536 : Int) ≤ (cv : Int) := by omega
              go_wp2
              go_meet
              case rel => exact ⟨rfl, 65536, rfl, HBV.out.cut 65536 (by omega), Nat.le_refl _, (fun h => by have := HNV.out h; omega)⟩
            · have hbig' : ¬ (65536 : Int) < (nv : Int) := by omega
              go_wp2
              go_meet
              case rel => exact ⟨rfl, nv, rfl, (by unfold valOf; rw [List.take_of_length_le (by rw [HBV.out.len]; omega)]; exact HBV.out : BytesAt _ _ _ _), by omega, HNV⟩
          case rest =>
            obtain ⟨hwc, mv, rfl, HV1, hmv1, HN3⟩ := hcut
            subst hwc
            clear HBV HNV g3'
            have HStc : Hid (St w wc w.heap.size n i i ks vs u5 (encAll ((ds.take i).map toWr))) := HSt.out.below HW1.out hBs
            have HBc : Hid (Below w.heap.size w wc) := HBel.out.trans (HW1.out.mono hBs)
            have hBc : w.heap.size ≤ wc.heap.size := HBc.out.size
            have hB3 : w.heap.size + 1 < wr.heap.size := by obtain ⟨_, _, _, h, _⟩ := HSt.out; exact h.lt
            have hB2 : w.heap.size < wr.heap.size := by omega
            have HOff : Hid (Off w.heap.size wr.heap.size wc.heap.size u5) := by obtain ⟨_, _, _, _, _, _, h, _⟩ := HSt.out; exact Off.start h
            clear HSt HW1 HBel
            obtain ⟨kv0, R1⟩ : ∃ kv, Hid (wc.rowIs w.heap.size 22 n kv) := by obtain ⟨kv, _, h, _⟩ := HStc.out; exact ⟨kv, h⟩
            go_upto_region 18 with (at_builtin; refine wpList_append_fresh wc rfl (.tmp 54) (.tmp 55) rfl wc.heap.size rfl rfl ak1 mk ck1 (keyOf ds[i].key) rfl HK1.out HN2.out (by omega) ?_; intro gx cx w1 hx hb1; have c1 := (rowIs_below R1.out hb1).cell hlt; have f1 := (rowIs_below R1.out hb1).frozen i)
            have HS1 : Hid (St w (w1.setCell ⟨w.heap.size, i, none⟩ (.slice (some ⟨gx, 0, none⟩) mk cx)) w.heap.size n (i + 1) i ks vs u5 (encAll ((ds.take i).map toWr))) := by
              have hs1 := HStc.out.below hb1 hBc
              have hv : Owns wc w.heap.size u5 (encAll ((ds.take i).map toWr)) := by obtain ⟨_, _, _, _, _, _, h, _⟩ := HStc.out; exact h
              refine hs1.key ?_ (apart_new (B' := 0) (m := 0) hx hv)
              unfold Owns
              rw [HK.out i hid, ← HK1.out.len] at *
              exact ownsRow_base hx hBc
            have HB1 : Hid (Below wc.heap.size wc w1) := hb1
            clear hb1 hx c1 f1 R1
            have HKp : Hid (Keep w.heap.size wr.heap.size wc.heap.size wc (w1.setCell ⟨w.heap.size, i, none⟩ (.slice (some ⟨gx, 0, none⟩) mk cx))) :=
              ((Keep.start wc).below HB1.out hBc).setCell (Nat.le_refl _) (.inl hB2)
            go_upto_region 18 with (fail)
            generalize w1.setCell ⟨w.heap.size, i, none⟩ (.slice (some ⟨gx, 0, none⟩) mk cx) = W1 at *
            clear HB1 HStc
            have HBW1 : Hid (Below w.heap.size w W1) := by obtain ⟨_, _, _, _, _, _, _, h⟩ := HS1.out; exact h
            have hBW1 : w.heap.size ≤ W1.heap.size := HBW1.out.size
            obtain ⟨vv0, R2⟩ : ∃ vv, Hid (W1.rowIs (w.heap.size + 1) 22 n vv) := by obtain ⟨_, vv, _, h, _⟩ := HS1.out; exact ⟨vv, h⟩
            go_upto_region 19 with (at_builtin; refine wpList_append_fresh W1 rfl (.tmp 60) (.tmp 61) rfl W1.heap.size rfl rfl av mv cv (valOf ds[i].val) rfl (HV1.out.below HBW1.out) HN3.out (by omega) ?_; intro gy cy w2 hy hb2; have c1 := (rowIs_below R2.out hb2).cell hlt; have f1 := (rowIs_below R2.out hb2).frozen i)
            have HS2 : Hid (St w (w2.setCell ⟨w.heap.size + 1, i, none⟩ (.slice (some ⟨gy, 0, none⟩) mv cy)) w.heap.size n (i + 1) (i + 1) ks vs u5 (encAll ((ds.take i).map toWr))) := by
              have hs1 := HS1.out.below hb2 hBW1
              have hv : Owns W1 w.heap.size u5 (encAll ((ds.take i).map toWr)) := by obtain ⟨_, _, _, _, _, _, h, _⟩ := HS1.out; exact h
              refine hs1.val ?_ (apart_new (B' := 0) (m := 0) hy hv)
              unfold Owns
              rw [HV.out i hid, ← HV1.out.len] at *
              exact ownsRow_base hy hBW1
            have HKp2 : Hid (Keep w.heap.size wr.heap.size wc.heap.size wc (w2.setCell ⟨w.heap.size + 1, i, none⟩ (.slice (some ⟨gy, 0, none⟩) mv cy))) :=
              (HKp.out.below hb2 hBW1).setCell (Nat.le_succ _) (.inl hB3)
            clear hb2 hy c1 f1 R2 HS1 HKp HBW1 hBW1
            go_upto_region 19 with (fail)
            generalize w2.setCell ⟨w.heap.size + 1, i, none⟩ (.slice (some ⟨gy, 0, none⟩) mv cy) = W2 at *
            have HM : Hid (Mid w w.heap.size wr.heap.size wc.heap.size n i ks vs wc W2 u5 (encAll ((ds.take i).map toWr))) := ⟨HS2.out, HKp2.out, HOff.out⟩
            have hE : (encAll ((ds.take i).map toWr)).length ≤ 71400000 := by
              have := encAll_len ((ds.take i).map toWr) (fun o ho => by obtain ⟨d, _, rfl⟩ := List.mem_map.1 ho; exact toWr_fits d)
              have hl : ((ds.take i).map toWr).length ≤ 1024 := by simp; omega
              omega
            have HEn : Hid (encAll ((ds.take (i + 1)).map toWr) = encAll ((ds.take i).map toWr) ++ encW (toWr ds[i])) := by
              show encAll _ = _
              rw [List.take_succ_eq_append_getElem hid, List.map_append, List.map_cons, List.map_nil, encAll_snoc]
            have hkl : (keyOf ds[i].key).length = mk := HK1.out.len
            have hvl : (valOf ds[i].val).length = mv := HV1.out.len
            have h1w : w.cell? ⟨b, off + i * 3, none⟩ = some (.bool ds[i].del) := (HI.out i hid).1
            have hDel : ∀ X : World, Below w.heap.size w X → X.cell? ⟨b, off + i * 3, none⟩ = some (.bool ds[i].del) := fun X hX => (hX.cell (World.block_lt_of_cell? _ _ h1w)).trans h1w
            have HDel : Hid (∀ X : World, Below w.heap.size w X → X.cell? ⟨b, off + i * 3, none⟩ = some (.bool ds[i].del)) := hDel
            have hd2 := hDel W2 HM.out.bel
            have hB2' : w.heap.size ≤ W2.heap.size := HM.out.bel.size
            clear HS2 HKp2 HOff hDel h1w g1' HBc
            generalize encAll ((ds.take i).map toWr) = E at *
            cases hdel : ds[i].del with
            | true =>
              rw [hdel] at hd2
              have HFin : Hid (encW (toWr ds[i]) = [2] ++ (Lib.uvarint mk ++ keyOf ds[i].key)) := by
                show encW (toWr ds[i]) = _
                unfold toWr encW
                simp [hdel, hkl]
              have HDl : Hid (ds[i].del = true) := hdel
              clear hdel hkl hvl
              go_upto_region 22 with (at_builtin; refine wpList_append_enc (W2.alloc (.cells #[.int .u8 2] 5)) rfl (.tmp 69) (.tmp 70) rfl w.heap.size u5 E rfl (HM.out.alloc _ hB2').own (by simp; omega) (some ⟨W2.heap.size, 0, none⟩) 1 1 [2] rfl (bytes_one_new W2 2) (fun h => by cases h) (by omega) (by omega) ?_; intro v1 w3 ho1 hg1 hl1)
              have HM3 : Hid (Mid w w.heap.size wr.heap.size wc.heap.size n i ks vs wc w3 v1 (E ++ [2])) := (HM.out.alloc _ hB2').push hg1 hl1 ho1 (by simp; omega)
              clear HM ho1 hg1 hl1 hd2
              go_wp2_with fail
              refine (appendUvarint_any w.heap.size _ mk (by omega) v1 _ w3 HM3.out.own HM3.out.bel.size (by simp; omega)).mono ?_
              rintro e w4 ⟨v2, rfl, ho2, hg2, hl2⟩
              have HM4 : Hid (Mid w w.heap.size wr.heap.size wc.heap.size n i ks vs wc w4 v2 (E ++ [2] ++ Lib.uvarint mk)) := HM3.out.push hg2 hl2 (Owns.more ho2) HM3.out.bel.size
              have hu := Lib.uvarint_length64 (x := mk) (by omega)
              clear HM3 ho2 hg2 hl2
              go_upto_region 24 with (at_builtin; refine wpList_append_enc w4 rfl (.tmp 80) (.tmp 81) rfl w.heap.size v2 _ rfl HM4.out.own HM4.out.bel.size ak1 mk ck1 (keyOf ds[i].key) rfl (HM4.out.2.1.bytes HK1.out HAd.out) HN2.out (by omega) (by simp; omega) ?_; intro v3 w5 ho3 hg3 hl3)
              have HM5 : Hid (Mid w w.heap.size wr.heap.size wc.heap.size n i ks vs wc w5 v3 (E ++ [2] ++ Lib.uvarint mk ++ keyOf ds[i].key)) := HM4.out.push hg3 hl3 ho3 HM4.out.bel.size
              have hd5 := HDel.out w5 HM5.out.bel
              rw [HDl.out] at hd5
              have HR : Hid (St w w5 w.heap.size n (i + 1) (i + 1) ks vs v3 (encAll ((ds.take (i + 1)).map toWr))) := by
                show St _ _ _ _ _ _ _ _ _ _
                rw [HEn.out, HFin.out]
                have := HM5.out.1
                simpa using this
              clear HM4 HM5 ho3 hg3 hl3 HEn HFin HDel HDl HK1 HN2 HAd HV1 HN3
              go_wp2
              go_roundw
              case rel => exact ⟨i + 1, by omega, by go_num, HR⟩
              case measure => simp [intOf]; omega
            | false =>
              rw [hdel] at hd2
              have HFin : Hid (encW (toWr ds[i]) = [1] ++ (Lib.uvarint mk ++ (keyOf ds[i].key ++ (Lib.uvarint mv ++ valOf ds[i].val)))) := by
                show encW (toWr ds[i]) = _
                unfold toWr encW
                simp [hdel, hkl, hvl]
              have HDl : Hid (ds[i].del = false) := hdel
              clear hdel
              go_upto_region 22 with (at_builtin; refine wpList_append_enc (W2.alloc (.cells #[.int .u8 1] 5)) rfl (.tmp 72) (.tmp 73) rfl w.heap.size u5 E rfl (HM.out.alloc _ hB2').own (by simp; omega) (some ⟨W2.heap.size, 0, none⟩) 1 1 [1] rfl (bytes_one_new W2 1) (fun h => by cases h) (by omega) (by omega) ?_; intro v1 w3 ho1 hg1 hl1)
              have HM3 : Hid (Mid w w.heap.size wr.heap.size wc.heap.size n i ks vs wc w3 v1 (E ++ [1])) := (HM.out.alloc _ hB2').push hg1 hl1 ho1 (by simp; omega)
              clear HM ho1 hg1 hl1 hd2
              go_wp2_with fail
              refine (appendUvarint_any w.heap.size _ mk (by omega) v1 _ w3 HM3.out.own HM3.out.bel.size (by simp; omega)).mono ?_
              rintro e w4 ⟨v2, rfl, ho2, hg2, hl2⟩
              have HM4 : Hid (Mid w w.heap.size wr.heap.size wc.heap.size n i ks vs wc w4 v2 (E ++ [1] ++ Lib.uvarint mk)) := HM3.out.push hg2 hl2 (Owns.more ho2) HM3.out.bel.size
              have hu := Lib.uvarint_length64 (x := mk) (by omega)
              clear HM3 ho2 hg2 hl2
              go_upto_region 24 with (at_builtin; refine wpList_append_enc w4 rfl (.tmp 80) (.tmp 81) rfl w.heap.size v2 _ rfl HM4.out.own HM4.out.bel.size ak1 mk ck1 (keyOf ds[i].key) rfl (HM4.out.2.1.bytes HK1.out HAd.out) HN2.out (by omega) (by simp; omega) ?_; intro v3 w5 ho3 hg3 hl3)
              have HM5 : Hid (Mid w w.heap.size wr.heap.size wc.heap.size n i ks vs wc w5 v3 (E ++ [1] ++ Lib.uvarint mk ++ keyOf ds[i].key)) := HM4.out.push hg3 hl3 ho3 HM4.out.bel.size
              have hd5 := HDel.out w5 HM5.out.bel
              rw [HDl.out] at hd5
              clear HM4 ho3 hg3 hl3 HDel HDl HK1 HN2 HAd
              go_wp2_with fail
              refine (appendUvarint_any w.heap.size _ mv (by omega) v3 _ w5 HM5.out.own HM5.out.bel.size (by simp; omega)).mono ?_
              rintro e w6 ⟨v4, rfl, ho4, hg4, hl4⟩
              have HM6 : Hid (Mid w w.heap.size wr.heap.size wc.heap.size n i ks vs wc w6 v4 (E ++ [1] ++ Lib.uvarint mk ++ keyOf ds[i].key ++ Lib.uvarint mv)) := HM5.out.push hg4 hl4 (Owns.more ho4) HM5.out.bel.size
              have hu2 := Lib.uvarint_length64 (x := mv) (by omega)
              clear HM5 ho4 hg4 hl4 hd5
              go_wp2_with (at_builtin; refine wpList_append_enc w6 rfl (.tmp 94) (.tmp 95) rfl w.heap.size v4 _ rfl HM6.out.own HM6.out.bel.size av mv cv (valOf ds[i].val) rfl (HV1.out.below HM6.out.bel) HN3.out (by omega) (by simp; omega) ?_; intro v5 w7 ho5 hg5 hl5)
              have HR : Hid (St w w7 w.heap.size n (i + 1) (i + 1) ks vs v5 (encAll ((ds.take (i + 1)).map toWr))) := by
                show St _ _ _ _ _ _ _ _ _ _
                rw [HEn.out, HFin.out]
                have := (HM6.out.push hg5 hl5 ho5 HM6.out.bel.size).1
                simpa using this
              clear HM6 ho5 hg5 hl5 HEn HFin HV1 HN3
              go_wp2
              go_roundw
              case rel => exact ⟨i + 1, by omega, by go_num, HR⟩
              case measure => simp [intOf]; omega
    · obtain rfl : i = n := by omega
      have hds : ds.take i = ds := List.take_of_length_le (by rw [HL.out]; omega)
      have HS3 : Hid (St w wr w.heap.size i i i ks vs u5 (encAll (ds.map toWr))) := by
        have := HSt.out; rw [hds] at this; exact this
      clear HSt hds
      have hB : w.heap.size ≤ wr.heap.size := by obtain ⟨_, _, _, _, _, _, _, h⟩ := HS3.out; exact h.size
      have hbel : Below w.heap.size w wr := by obtain ⟨_, _, _, _, _, _, _, h⟩ := HS3.out; exact h
      have hE : (encAll (ds.map toWr)).length ≤ 71400000 := by
        have := encAll_len (ds.map toWr) (fun o ho => by obtain ⟨d, _, rfl⟩ := List.mem_map.1 ho; exact toWr_fits d)
        have hl : (ds.map toWr).length ≤ 1024 := by rw [List.length_map, HL.out]; omega
        omega
      have HD : Hid (dec (encAll (ds.map toWr)) = some (ds.map toWr)) := dec_encAll _ (fun o ho => by obtain ⟨d, _, rfl⟩ := List.mem_map.1 ho; exact toWr_fits d)
      have HE0 : Hid (encAll (ds.map toWr) ≠ []) := by
        intro h0
        have h1 := HD.out
        rw [h0] at h1
        have h2 : ds.map toWr = [] := (Option.some.inj ((show dec [] = some [] from rfl).symm.trans h1)).symm
        have h3 := congrArg List.length h2
        rw [List.length_map, HL.out] at h3
        simp at h3; omega
      have HCal : Hid (∀ (_ : True), Calls Ybaf.prog 7 #[u5] wr (DecEnd wr (encAll (ds.map toWr)))) := by
        intro _
        obtain ⟨_, _, _, _, _, _, ho, _⟩ := HS3.out
        obtain ⟨a, c, rfl, hb⟩ := ownsRow_bytes ho
        have hc : (encAll (ds.map toWr)).length ≤ c := by
          rcases ho.2 with ⟨e, h0⟩ | ⟨g, cap, cur, e, _, _, hc, _⟩
          · simp only [Value.slice.injEq] at e; omega
          · simp only [Value.slice.injEq] at e; omega
        exact decodeWrites_any F a _ c _ wr (answers_below HF.out hbel) (Sen.below (show Sen w from HS.out) hbel) hb hc (by omega)
      have HBel : Hid (Below w.heap.size w wr) := hbel
      clear hbel
      go_wp2_with fail
      refine (HCal.out trivial).mono ?_
      rintro e W ⟨hbW, hend⟩
      rw [HD.out] at hend
      rcases hend with ⟨h0, _⟩ | ⟨os, gv, he, rfl, hops, hnil⟩
      · cases h0
      obtain rfl := Option.some.inj he
      obtain ⟨kv, vv, g, c, cur, rfl, hc, hg, hcur, hfin⟩ := HS3.out.fin hbW hB hops HE0.out
      have HFin : Hid (Fin w W w.heap.size i kv vv ks vs wr.heap.size gv (ds.map toWr) g) := hfin
      have HCur : Hid (∃ cur, W.heap[g]? = some (.cells cur 5 (0, 0)) ∧ (encAll (ds.map toWr)).length ≤ cur.size) := ⟨cur, hg, hcur⟩
      have hol : (ds.map toWr).length = i := by rw [List.length_map, HL.out]
      obtain ⟨ga, gc, rfl⟩ : ∃ a c, gv = .slice a i c := by
        obtain ⟨cs, ho, _⟩ := hops
        rw [hol] at ho
        rcases ho.2 with ⟨e, h0⟩ | ⟨g', cap, cur', e, _⟩
        · exact absurd h0 (by omega)
        · exact ⟨_, _, e⟩
      clear hfin hg hcur hops hbW he hnil HCal HS3 HD cur
      generalize wr.heap.size = H at *
      generalize (encAll (ds.map toWr)).length = M at *
      clear HBel
      go_wp2
      go_loopw [11] (fun jv wy => ∃ j : Nat, j ≤ M ∧ jv = .int .i64 j ∧ Hid (Fin w wy w.heap.size i kv vv ks vs H (.slice ga i gc) (ds.map toWr) g) ∧ Hid (∃ cur, wy.heap[g]? = some (.cells cur 5 (0, 0)) ∧ M ≤ cur.size)) (fun jv _ => M - (intOf jv).toNat)
      case atStart => exact ⟨0, Nat.zero_le _, rfl, HFin, HCur⟩
      case round =>
        clear HFin HCur
        obtain ⟨j, hj, rfl, HF2, HC2⟩ := hrel
        by_cases hlt2 : j < M
        · obtain ⟨x, c1, f1⟩ : ∃ x, wr.cell? ⟨g, j, none⟩ = some x ∧ wr.frozen? ⟨g, j, none⟩ = false := by
            obtain ⟨cur, h1, h2⟩ := HC2.out
            exact ⟨cur[j]'(by omega), by simp [World.cell?, h1, show j < cur.size by omega], by simp [World.frozen?, h1]⟩
          have HFn : Hid (Fin w (wr.setCell ⟨g, j, none⟩ (.int .u8 255)) w.heap.size i kv vv ks vs H (.slice ga i gc) (ds.map toWr) g) := HF2.out.setCell
          have HCn : Hid (∃ cur, (wr.setCell ⟨g, j, none⟩ (.int .u8 255)).heap[g]? = some (.cells cur 5 (0, 0)) ∧ M ≤ cur.size) := by
            obtain ⟨cur, h1, h2⟩ := HC2.out
            exact ⟨_, heap_setCell_same wr g j cur 5 (.int .u8 255) h1, by simpa using h2⟩
          clear HF2 HC2
          go_wp2
          go_roundw
          case rel => exact ⟨j + 1, by omega, by go_num, HFn, HCn⟩
          case measure => simp [intOf]; omega
        · go_wp2
          go_loopw [12] (fun jv wy => ∃ j : Nat, j ≤ i ∧ jv = .int .i64 j ∧ Hid (Fin w wy w.heap.size i kv vv ks vs H (.slice ga i gc) (ds.map toWr) g)) (fun jv _ => i - (intOf jv).toNat)
          case atStart => exact ⟨0, Nat.zero_le _, rfl, HF2⟩
          case round =>
            clear HF2 HC2 hlt2 hj
            obtain ⟨k, hk, rfl, HF3⟩ := hrel
            by_cases hlt3 : k < i
            · have hid : k < ds.length := by rw [HL.out]; exact hlt3
              have hbel3 : Below w.heap.size w wr := by obtain ⟨_, _, _, _, _, _, _, _, _, h⟩ := HF3.out; exact h
              have h1 := (HI.out k hid).1
              have g1 : wr.cell? ⟨b, off + k * 3, none⟩ = some (.bool ds[k].del) := (hbel3.cell (World.block_lt_of_cell? _ _ h1)).trans h1
              obtain ⟨gg, cap', a1, c1, a2, c2, a3, c3, v4, he, e1, b1, e2, b2, e3, b3, e4, e5, hv1, hv2⟩ := HF3.out.at hol k hlt3
              simp only [Value.slice.injEq] at he
              obtain ⟨rfl, -, rfl⟩ := he
              have hkk := HK.out k hid
              have hvk := HV.out k hid
              simp only [List.getElem_map] at e3 b3 e5 hv1 hv2
              have hkey : (toWr ds[k]).key = ks k := hkk.symm
              rw [hkey] at e3 b3
              have HC1 : Hid (∀ m, Calls Ybaf.prog 8 #[.slice a3 (ks k).length c3, .slice a1 (ks k).length c1] (wr.drewN m) fun e w' => e = .returned (.bool true) ∧ w' = wr.drewN m) :=
                fun m => (equal_any (w := wr.drewN m) b3 b1).mono fun _ _ ⟨he, hw⟩ => ⟨by rw [he]; simp, hw⟩
              have HFn : Hid (∀ m, Fin w (wr.drewN m) w.heap.size i kv vv ks vs H (.slice (some ⟨gg, 0, none⟩) i gc) (ds.map toWr) g) := fun m => HF3.out.drewN m
              clear hkk b1 b3 h1 hbel3 hkey HF3
              have l1 : (k : Int) < (i : Int) := by omega
              have l0 : (0 : Int) ≤ (k : Int) := by omega
              cases hdel : ds[k].del with
              | true =>
                have hval : (toWr ds[k]).val = none := by unfold toWr; simp [hdel]
                obtain rfl := hv1 hval
                rw [hval] at e5
                rw [hdel] at g1
                have e5' : wr.cell? ⟨gg, k * 3 + 2, none⟩ = some (.bool true) := e5
                clear hv1 hv2 hval e5 hdel b2 e2 hvk
                have hne : ∀ W : World, (binOp .neq 22 (.slice none 0 0) (.slice none 0 0)).run Ybaf.prog W = .ok (.bool false) W := fun W => run_neq_slice_nil_any W 22 5 none 0 0 0 0 Ybaf.underlying22
                go_upto_region 37 with (fail)
                go_quiet ((go_at_call 8; exact Calls.quiet_of_same (HC1.out _)))
                clear HC1
                go_wp2
                go_roundw
                case rel => exact ⟨k + 1, by omega, by go_num, HFn.out _⟩
                case measure => simp [intOf]; omega
              | false =>
                have hval : (toWr ds[k]).val = some (valOf ds[k].val) := by unfold toWr; simp [hdel]
                obtain ⟨a4, c4, rfl, b4⟩ := hv2 _ hval
                rw [← hvk] at b4 e4
                rw [hval] at e5
                rw [hdel] at g1
                have e5' : wr.cell? ⟨gg, k * 3 + 2, none⟩ = some (.bool false) := e5
                have HC2 : Hid (∀ m, Calls Ybaf.prog 8 #[.slice a4 (vs k).length c4, .slice a2 (vs k).length c2] (wr.drewN m) fun e w' => e = .returned (.bool true) ∧ w' = wr.drewN m) :=
                  fun m => (equal_any (w := wr.drewN m) b4 b2).mono fun _ _ ⟨he, hw⟩ => ⟨by rw [he]; simp, hw⟩
                clear hv1 hv2 hval e5 hdel b2 b4 hvk
                go_upto_region 37 with (fail)
                go_quiet ((go_at_call 8; exact Calls.quiet_of_same (HC1.out _)))
                clear HC1
                go_upto_region 42 with (fail)
                obtain ⟨W, hW⟩ : ∃ W, W = wr.drewN nq := ⟨_, rfl⟩
                have x2 : W.cell? ⟨w.heap.size + 1, k, none⟩ = some (.slice a2 (vs k).length c2) := by rw [hW]; exact e2
                have x4 : W.cell? ⟨gg, k * 3 + 1, none⟩ = some (.slice a4 (vs k).length c4) := by rw [hW]; exact e4
                have HC3 : Hid (∀ m, Calls Ybaf.prog 8 #[.slice a4 (vs k).length c4, .slice a2 (vs k).length c2] (W.drewN m) fun e w' => e = .returned (.bool true) ∧ w' = W.drewN m) := by
                  intro m; rw [hW, World.drewN_drewN]; exact HC2.out _
                have HFm : Hid (∀ m, Fin w (W.drewN m) w.heap.size i kv vv ks vs H (.slice (some ⟨gg, 0, none⟩) i gc) (ds.map toWr) g) := by
                  intro m; rw [hW, World.drewN_drewN]; exact HFn.out _
                rw [← hW]
                clear hW HC2 HFn e1 e2 e3 e4 e5' g1
                clear nq
                go_quiet ((go_at_call 8; exact Calls.quiet_of_same (HC3.out _)))
                clear HC3
                go_wp2
                go_roundw
                case rel => exact ⟨k + 1, by omega, by go_num, HFm.out _⟩
                case measure => simp [intOf]; omega
            · have hbel3 : Below w.heap.size w wr := by obtain ⟨_, _, _, _, _, _, _, _, _, h⟩ := HF3.out; exact h
              go_wp2
              go_ret
              exact ⟨rfl, hbel3⟩

end Go.Proofs.YbulkbgzmFmt
