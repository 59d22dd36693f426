/-
  'zzs2898amodel': the walk.
-/
import Derived.Test.YbulkbgzmFmtMo1
import Derived.Test.YbulkbgzmFmtRT3
namespace Go.Proofs.YbulkbgzmFmt
open Go.RowKit Go.Stop
set_option linter.unusedVariables false

/-- One write's three cells; its bytes lie in the argument's memory (world w). -/
def OpCellsM (w : World) (o : Wr) (kv vv dv : Value) : Prop :=
  (∃ a c, kv = .slice a o.key.length c ∧ BytesAt w a o.key.length o.key) ∧ dv = .bool o.val.isNone ∧ (o.val = none → vv = .slice none 0 0) ∧ ∀ x, o.val = some x → ∃ a c, vv = .slice a x.length c ∧ BytesAt w a x.length x
def CellsM (w : World) : List Wr → List Value → Prop
  | [], cs => cs = []
  | o :: os, cs => ∃ kv vv dv rest, cs = kv :: vv :: dv :: rest ∧ OpCellsM w o kv vv dv ∧ CellsM w os rest
theorem CellsM.snoc {w : World} {o : Wr} {kv vv dv : Value} (ho : OpCellsM w o kv vv dv) : ∀ {os : List Wr} {cs : List Value}, CellsM w os cs → CellsM w (os ++ [o]) (cs ++ [kv, vv, dv])
  | [], _, h => by obtain rfl := h; exact ⟨kv, vv, dv, [], rfl, ho, rfl⟩
  | p :: os, _, ⟨kv', vv', dv', rest, e, h, hr⟩ => by subst e; exact ⟨kv', vv', dv', rest ++ [kv, vv, dv], rfl, h, CellsM.snoc ho hr⟩
theorem CellsM.at {w : World} : ∀ {os : List Wr} {cs : List Value} (_ : CellsM w os cs) (i : Nat) (hi : i < os.length), ∃ kv vv dv, cs[3 * i]? = some kv ∧ cs[3 * i + 1]? = some vv ∧ cs[3 * i + 2]? = some dv ∧ OpCellsM w os[i] kv vv dv
  | [], _, _, i, hi => absurd hi (by simp)
  | o :: os, _, ⟨kv, vv, dv, rest, e, h, hr⟩, 0, _ => by subst e; exact ⟨kv, vv, dv, rfl, rfl, rfl, h⟩
  | o :: os, _, ⟨kv, vv, dv, rest, e, h, hr⟩, i + 1, hi => by
    subst e
    obtain ⟨a, b, c, h1, h2, h3, h4⟩ := CellsM.at hr i (by simpa using hi)
    exact ⟨a, b, c, by rw [← h1]; rfl, by rw [← h2]; rfl, by rw [← h3]; rfl, h4⟩
def OpsM (w X : World) (B : Nat) (v : Value) (os : List Wr) : Prop := ∃ cs, X.ownsRow B 31 3 v os.length cs ∧ CellsM w os cs
theorem OpsM.below {w X Y : World} {B : Nat} {v : Value} {os : List Wr} (h : OpsM w X B v os) (hb : Below X.heap.size X Y) : OpsM w Y B v os := by
  obtain ⟨cs, ⟨h1, h2⟩, h3⟩ := h
  refine ⟨cs, ⟨h1, ?_⟩, h3⟩
  rcases h2 with h2 | ⟨g, cap, cur, hv, hg, hh, r⟩
  · exact .inl h2
  · exact .inr ⟨g, cap, cur, hv, hg, (hb.block g (lt_of_block hh)).trans hh, r⟩

def ModEnd (w : World) (l : List UInt8) (e : Ending) (w' : World) : Prop :=
  Below w.heap.size w w' ∧ ((dec l = none ∧ e = .returned (.tuple #[.slice none 0 0, .bool false])) ∨
    ∃ os v, dec l = some os ∧ e = .returned (.tuple #[v, .bool true]) ∧ OpsM w w' w.heap.size v os)
def ModInv (w wr : World) (l : List UInt8) (bv v : Value) (m : Nat) : Prop :=
  ∃ a n c r os, bv = .slice a n c ∧ m = n ∧ BytesAt w a n r ∧ n ≤ c ∧ dec l = (dec r).map (os ++ ·) ∧ os.length + r.length ≤ l.length ∧ OpsM w wr w.heap.size v os ∧ Below w.heap.size w wr
theorem ModInv.push {w WA w3 : World} {l r r1 : List UInt8} {os : List Wr} {o : Wr} {u v' : Value} {kv vv dv : Value} {a1 : Option Addr} {c1 : Nat} {cs : List Value}
    (hd : dec l = (dec r).map (os ++ ·)) (h1 : wr1 r = some (o, r1)) (hlen : os.length + r.length ≤ l.length) (hr : BytesAt w a1 r1.length r1) (hc1 : r1.length ≤ c1)
    (hown : WA.ownsRow w.heap.size 31 3 u os.length cs) (hcs : CellsM w os cs) (hA : Below w.heap.size w WA) (ho : OpCellsM w o kv vv dv)
    (hown' : w3.ownsRow w.heap.size 31 3 v' (os.length + 1) (cs ++ [kv, vv, dv])) (hg : (WA.alloc (.cells #[kv, vv, dv] 31)).grownBy w3 u.ownBlock) :
    ModInv w w3 l (.slice a1 r1.length c1) v' r1.length := by
  refine ⟨a1, r1.length, c1, r1, os ++ [o], rfl, rfl, hr, hc1, dec_more hd h1, ?_, ⟨_, by simpa using hown', hcs.snoc ho⟩, ?_⟩
  · have := wr1_len h1; simp; omega
  · exact (hA.alloc hA.size _).grown hg (by have := hA.size; simp; omega) (fun k hk => (hown.lt k hk).1)

set_option maxRecDepth 100000 in
set_option maxHeartbeats 4000000 in
theorem model_any (a : Option Addr) (n c : Nat) (l : List UInt8) (w : World) (h : BytesAt w a n l) (hnc : n ≤ c) (hn : n ≤ 1048576) :
    Calls Ybaf.prog 6 #[.slice a n c] w (ModEnd w l) := by
  have hll : l.length ≤ 1048576 := by rw [h.len]; exact hn
  have H0 : Hid (ModInv w w l (.slice a n c) (.slice none 0 0) n) := ⟨a, n, c, l, [], rfl, rfl, h, hnc, by simp, by simp, ⟨[], World.ownsRow_nil _ _ _ _, rfl⟩, Below.refl _ _⟩
  clear h hnc hn
  go_enter Ybaf.func6, Ybaf.ntmps6
  go_wp2
  go_loopw [0, 4] (fun bv v wr => ∃ m, Hid (ModInv w wr l bv v m)) (fun bv _ _ => match bv with | .slice _ n _ => n | _ => 0)
  case atStart => exact ⟨n, H0⟩
  case round =>
    clear H0
    obtain ⟨m, HI⟩ := hrel
    obtain ⟨a, n, c, r, os, rfl, hm, hB, hnc, hd, hlen, hO, hbel⟩ := HI.out
    clear HI hm
    cases r with
    | nil =>
      obtain rfl : n = 0 := by have := hB.len; simpa using this.symm
      have hfin : Hid (dec l = some os) := by show dec l = some os; rw [hd, dec_nil]; simp
      have HX : Hid (OpsM w wr w.heap.size u4 os ∧ Below w.heap.size w wr) := ⟨hO, hbel⟩
      clear hB hd hlen hO hbel
      go_wp2
      go_ret2
      exact ⟨HX.out.2, .inr ⟨os, _, hfin.out, rfl, HX.out.1⟩⟩
    | cons k t =>
      obtain ⟨b, o, rfl, rfl, hk, ht⟩ := hB.cons
      have hkw : wr.cell? ⟨b, o, none⟩ = some (.int .u8 k.toNat) := (hbel.cell (World.block_lt_of_cell? _ _ hk)).trans hk
      have hk256 := k.toNat_lt
      obtain ⟨d, rfl⟩ : ∃ d, c = d + 1 := ⟨c - 1, by omega⟩
      have HB : Hid (BytesAt w (some ⟨b, o + 1, none⟩) t.length t) := ht
      have HX : Hid (OpsM w wr w.heap.size u4 os ∧ Below w.heap.size w wr) := ⟨hO, hbel⟩
      have HD : Hid (dec l = (dec (k :: t)).map (os ++ ·)) := hd
      simp only [List.length_cons] at hlen
      clear hB hd hO hbel hk ht
      cases hf : field t with
      | none =>
        have hfin : Hid (dec l = none) := by
          show dec l = none
          rw [HD.out, dec_stop (by simp) (by rw [wr1_cons, hf])]; rfl
        have HFd : Hid (field t = none) := hf
        clear HD hf
        by_cases hd0 : d = 0
        · subst hd0
          obtain rfl : t = [] := List.eq_nil_of_length_eq_zero (by omega)
          go_wp2_with fail
          refine (zfield_err (BytesAt.nil _ _) (by omega) (by omega) HFd.out).mono ?_
          rintro e w1 ⟨rfl, rfl⟩
          go_wp2
          go_ret2
          exact ⟨HX.out.2, .inl ⟨hfin.out, rfl⟩⟩
        · go_wp2_with fail
          refine (zfield_err (HB.out.below HX.out.2) (by omega) (by omega) HFd.out).mono ?_
          rintro e w1 ⟨rfl, rfl⟩
          go_wp2
          go_ret2
          exact ⟨HX.out.2, .inl ⟨hfin.out, rfl⟩⟩
      | some q =>
        obtain ⟨key, r1⟩ := q
        have hfl := field_len hf
        have HFd : Hid (field t = some (key, r1)) := hf
        clear hf
        have hd0 : ¬ d = 0 := by omega
        go_wp2_with fail
        refine (zfield_ok (HB.out.below HX.out.2) (by omega) (by omega) HFd.out).mono ?_
        rintro e w1 ⟨ak, ck, a1, c1, m1, rfl, hkr, hc1, rfl⟩
        have HK1 : Hid (BytesAt w ak key.length key) := (hkr w HB.out).1
        have HR1 : Hid (BytesAt w a1 r1.length r1) := (hkr w HB.out).2
        have HW1 : Hid (Below w.heap.size w (wr.drewN m1)) := HX.out.2.trans ⟨rfl, rfl, rfl, Nat.le_trans (Nat.le_refl _) (Nat.le_refl _), fun _ _ => rfl⟩
        have HO1 : Hid (OpsM w (wr.drewN m1) w.heap.size u4 os) := HX.out.1.below ⟨rfl, rfl, rfl, Nat.le_refl _, fun _ _ => rfl⟩
        clear hkr hkw HX
        generalize wr.drewN m1 = W1 at *
        by_cases hbad : key.length = 0 ∨ 4096 < key.length
        · have hfin : Hid (dec l = none) := by
            show dec l = none
            rw [HD.out, dec_stop (by simp) (by rw [wr1_cons, HFd.out]; simp only; rw [if_pos hbad])]; rfl
          clear HD HFd
          by_cases hz : key.length = 0
          · have hz' : ((key.length : Int) == 0) = true := by simp [hz]
            clear hbad
            go_wp2
            go_ret2
            exact ⟨HW1.out, .inl ⟨hfin.out, rfl⟩⟩
          · have hz' : ((key.length : Int) == 0) = false := by rw [beq_eq_false_iff_ne]; omega
            have hb' : (4096 : Int) < (key.length : Int) := by omega
            clear hbad
            go_wp2
            go_ret2
            exact ⟨HW1.out, .inl ⟨hfin.out, rfl⟩⟩
        · have hz' : ((key.length : Int) == 0) = false := by rw [beq_eq_false_iff_ne]; omega
          have hb' : ¬ (4096 : Int) < (key.length : Int) := by omega
          have HBad : Hid (¬ (key.length = 0 ∨ 4096 < key.length)) := hbad
          clear hbad
          go_upto_if 43 with (fail)
          have HBX : Hid ((W1.alloc (.cells #[.slice ak key.length ck, .slice none 0 0, .bool false] 31)).heap[W1.heap.size]? = some (.cells #[.slice ak key.length ck, .slice none 0 0, .bool false] 31 (0, 0))) := (MapKept.heap_alloc W1 _).1
          have HW2 : Hid (Below w.heap.size w (W1.alloc (.cells #[.slice ak key.length ck, .slice none 0 0, .bool false] 31))) := HW1.out.alloc HW1.out.size _
          have HO2 : Hid (OpsM w (W1.alloc (.cells #[.slice ak key.length ck, .slice none 0 0, .bool false] 31)) w.heap.size u4 os) := HO1.out.below ((Below.refl _ _).alloc (Nat.le_refl _) _)
          have hN : W1.heap.size < (W1.alloc (.cells #[.slice ak key.length ck, .slice none 0 0, .bool false] 31)).heap.size := by simp
          have hHN : w.heap.size ≤ W1.heap.size := HW1.out.size
          have HLt : Hid (∀ g, u4.ownBlock = some g → g < W1.heap.size) := by
            obtain ⟨cs, hown, _⟩ := HO1.out
            exact fun g hg => (hown.lt g hg).2
          clear HW1 HO1
          generalize hX : W1.alloc (.cells #[.slice ak key.length ck, .slice none 0 0, .bool false] 31) = W2 at *
          clear hX
          generalize W1.heap.size = N at *
          clear W1
          by_cases hk1 : k = 1
          · have hk1' : ((k.toNat : Int) == 1) = true := by rw [hk1]; rfl
            cases hf2 : field r1 with
            | none =>
              have hfin : Hid (dec l = none) := by
                show dec l = none
                rw [HD.out, dec_stop (by simp) (by rw [wr1_cons, HFd.out]; simp only; rw [if_neg HBad.out, if_pos hk1, hf2])]; rfl
              have HF2 : Hid (field r1 = none) := hf2
              clear hf2 hk1 HD HFd
              go_wp2_with fail
              refine (zfield_err (HR1.out.below HW2.out) hc1 (by omega) HF2.out).mono ?_
              rintro e w3 ⟨rfl, rfl⟩
              go_wp2
              go_ret2
              exact ⟨HW2.out, .inl ⟨hfin.out, rfl⟩⟩
            | some q2 =>
              obtain ⟨val, r2⟩ := q2
              have hfl2 := field_len hf2
              have HF2 : Hid (field r1 = some (val, r2)) := hf2
              clear hf2
              have h1 : Hid (wr1 (k :: t) = some (⟨key, some val⟩, r2)) := by
                show wr1 (k :: t) = _
                rw [wr1_cons, HFd.out]; simp only; rw [if_neg HBad.out, if_pos hk1, HF2.out]; simp only; rw [if_neg (by omega)]
              clear hk1
              go_wp2_with fail
              refine (zfield_ok (HR1.out.below HW2.out) hc1 (by omega) HF2.out).mono ?_
              rintro e w3 ⟨av, cv, a2, c2, m2, rfl, hkr, hc2, rfl⟩
              have HV1 : Hid (BytesAt w av val.length val) := (hkr w HR1.out).1
              have HR2 : Hid (BytesAt w a2 r2.length r2) := (hkr w HR1.out).2
              have HBX3 : Hid ((W2.drewN m2).heap[N]? = some (.cells #[.slice ak key.length ck, .slice none 0 0, .bool false] 31 (0, 0))) := HBX.out
              have HW3 : Hid (Below w.heap.size w (W2.drewN m2)) := HW2.out.trans ⟨rfl, rfl, rfl, Nat.le_refl _, fun _ _ => rfl⟩
              have HO3 : Hid (OpsM w (W2.drewN m2) w.heap.size u4 os) := HO2.out.below ⟨rfl, rfl, rfl, Nat.le_refl _, fun _ _ => rfl⟩
              clear hkr HBX HW2 HO2 HR1 HF2 HFd hN
              generalize W2.drewN m2 = W3 at *
              clear W2
              have hc3 : W3.cell? ⟨N, 1, none⟩ = some (.slice none 0 0) := box_cell HBX3.out 1
              have hf3 : W3.frozen? ⟨N, 1, none⟩ = false := box_free HBX3.out 1
              have HBX4 : Hid ((W3.setCell ⟨N, 1, none⟩ (.slice av val.length cv)).heap[N]? = some (.cells #[.slice ak key.length ck, .slice av val.length cv, .bool false] 31 (0, 0))) := box_set HBX3.out 1 _
              have HW4 : Hid (Below w.heap.size w (W3.setCell ⟨N, 1, none⟩ (.slice av val.length cv))) := HW3.out.setCell (p := ⟨N, 1, none⟩) hHN _
              obtain ⟨cs, hown, hcs⟩ := HO3.out
              have HOwn : Hid ((W3.setCell ⟨N, 1, none⟩ (.slice av val.length cv)).ownsRow w.heap.size 31 3 u4 os.length cs) := ownsRow_setOther hown (fun e => by have := HLt.out _ e; omega)
              have HCs : Hid (CellsM w os cs) := hcs
              have HOc : Hid (OpCellsM w ⟨key, some val⟩ (.slice ak key.length ck) (.slice av val.length cv) (.bool false)) :=
                ⟨⟨ak, ck, rfl, HK1.out⟩, rfl, fun h => by simp at h, fun x hx => by simp at hx; subst hx; exact ⟨av, cv, rfl, HV1.out⟩⟩
              have hd0' : (W3.setCell ⟨N, 1, none⟩ (.slice av val.length cv)).cell? ⟨N, 0, none⟩ = some (.slice ak key.length ck) := box_cell HBX4.out 0
              have hd1 : (W3.setCell ⟨N, 1, none⟩ (.slice av val.length cv)).cell? ⟨N, 1, none⟩ = some (.slice av val.length cv) := box_cell HBX4.out 1
              have hd2 : (W3.setCell ⟨N, 1, none⟩ (.slice av val.length cv)).cell? ⟨N, 2, none⟩ = some (.bool false) := box_cell HBX4.out 2
              clear hown hcs HO3 HBX3 HBX4 HW3 HK1 HV1
              go_wp2_with (at_builtin; refine wpList_append_op (W3.setCell ⟨N, 1, none⟩ (.slice av val.length cv)) rfl _ _ rfl w.heap.size os.length W3.heap.size u4 (.slice ak key.length ck) (.slice av val.length cv) (.bool false) cs (by simp) rfl HOwn.out rfl rfl rfl rfl (by omega) HW4.out.size ?_; intro v' w5 hown' hg hv')
              have HI : Hid (ModInv w w5 l (.slice a2 r2.length c2) v' r2.length) := ModInv.push HD.out h1.out (by simp; omega) HR2.out hc2 HOwn.out HCs.out HW4.out HOc.out hown' hg
              clear hown' hg hv' HOwn HCs HW4 HOc HD h1 HR2 HLt HBad
              go_wp2
              go_roundw
              case rel => exact ⟨_, HI⟩
              case measure => simp; omega
          · have hk1' : ((k.toNat : Int) == 1) = false := by
              rw [beq_eq_false_iff_ne]; intro e; exact hk1 (UInt8.toNat_inj.1 (show k.toNat = 1 by omega))
            by_cases hk2 : k = 2
            · have hk2' : ((k.toNat : Int) == 2) = true := by rw [hk2]; rfl
              have h1 : Hid (wr1 (k :: t) = some (⟨key, none⟩, r1)) := by
                show wr1 (k :: t) = _
                rw [wr1_cons, HFd.out]; simp only; rw [if_neg HBad.out, if_neg hk1, if_pos hk2]
              clear hk1 hk2 HFd
              have hc3 : W2.cell? ⟨N, 2, none⟩ = some (.bool false) := box_cell HBX.out 2
              have hf3 : W2.frozen? ⟨N, 2, none⟩ = false := box_free HBX.out 2
              have HBX4 : Hid ((W2.setCell ⟨N, 2, none⟩ (.bool true)).heap[N]? = some (.cells #[.slice ak key.length ck, .slice none 0 0, .bool true] 31 (0, 0))) := box_set HBX.out 2 _
              have HW4 : Hid (Below w.heap.size w (W2.setCell ⟨N, 2, none⟩ (.bool true))) := HW2.out.setCell (p := ⟨N, 2, none⟩) hHN _
              obtain ⟨cs, hown, hcs⟩ := HO2.out
              have HOwn : Hid ((W2.setCell ⟨N, 2, none⟩ (.bool true)).ownsRow w.heap.size 31 3 u4 os.length cs) := ownsRow_setOther hown (fun e => by have := HLt.out _ e; omega)
              have HCs : Hid (CellsM w os cs) := hcs
              have HOc : Hid (OpCellsM w ⟨key, none⟩ (.slice ak key.length ck) (.slice none 0 0) (.bool true)) :=
                ⟨⟨ak, ck, rfl, HK1.out⟩, rfl, fun _ => rfl, fun x hx => by cases hx⟩
              have hd0' : (W2.setCell ⟨N, 2, none⟩ (.bool true)).cell? ⟨N, 0, none⟩ = some (.slice ak key.length ck) := box_cell HBX4.out 0
              have hd1 : (W2.setCell ⟨N, 2, none⟩ (.bool true)).cell? ⟨N, 1, none⟩ = some (.slice none 0 0) := box_cell HBX4.out 1
              have hd2 : (W2.setCell ⟨N, 2, none⟩ (.bool true)).cell? ⟨N, 2, none⟩ = some (.bool true) := box_cell HBX4.out 2
              have he0 : W2.cell? ⟨N, 0, none⟩ = some (.slice ak key.length ck) := box_cell HBX.out 0
              have he1 : W2.cell? ⟨N, 1, none⟩ = some (.slice none 0 0) := box_cell HBX.out 1
              clear hown hcs HO2 HBX HBX4 HW2 HK1
              go_wp2_with (at_builtin; refine wpList_append_op (W2.setCell ⟨N, 2, none⟩ (.bool true)) rfl _ _ rfl w.heap.size os.length W2.heap.size u4 (.slice ak key.length ck) (.slice none 0 0) (.bool true) cs (by simp) rfl HOwn.out rfl rfl rfl rfl (by omega) HW4.out.size ?_; intro v' w5 hown' hg hv')
              have HI : Hid (ModInv w w5 l (.slice a1 r1.length c1) v' r1.length) := ModInv.push HD.out h1.out (by simp; omega) HR1.out hc1 HOwn.out HCs.out HW4.out HOc.out hown' hg
              clear hown' hg hv' HOwn HCs HW4 HOc HD h1 HR1 HLt HBad
              go_wp2
              go_roundw
              case rel => exact ⟨_, HI⟩
              case measure => simp; omega
            · have hk2' : ((k.toNat : Int) == 2) = false := by
                rw [beq_eq_false_iff_ne]; intro e; exact hk2 (UInt8.toNat_inj.1 (show k.toNat = 2 by omega))
              have hfin : Hid (dec l = none) := by
                show dec l = none
                rw [HD.out, dec_stop (by simp) (by rw [wr1_cons, HFd.out]; simp only; rw [if_neg HBad.out, if_neg hk1, if_neg hk2])]; rfl
              clear HBX HO2 HD HFd HR1 hk1 hk2 HLt HBad
              go_wp2
              go_ret2
              exact ⟨HW2.out, .inl ⟨hfin.out, rfl⟩⟩

end Go.Proofs.YbulkbgzmFmt
