/-
  'LawS2898AModel': the walk.
-/
import Derived.Test.YbulkbgzmFmtMo2
namespace Go.Proofs.YbulkbgzmFmt
open Go.RowKit Go.Stop
set_option linter.unusedVariables false

/-- Both decoders' writes, in one world. -/
def Both (w X : World) (H : Nat) (wv gv : Value) (os : List Wr) : Prop := OpsM w X w.heap.size wv os ∧ OpsAt X H gv os ∧ Below w.heap.size w X
theorem Both.drewN {w X : World} {H : Nat} {wv gv : Value} {os : List Wr} (h : Both w X H wv gv os) (m : Nat) : Both w (X.drewN m) H wv gv os :=
  ⟨h.1.below ⟨rfl, rfl, rfl, Nat.le_refl _, fun _ _ => rfl⟩, h.2.1.below ⟨rfl, rfl, rfl, Nat.le_refl _, fun _ _ => rfl⟩, h.2.2.trans ⟨rfl, rfl, rfl, Nat.le_refl _, fun _ _ => rfl⟩⟩

theorem row_cell {X : World} {B n g cap : Nat} {cs : List Value} (ho : X.ownsRow B 31 3 (.slice (some ⟨g, 0, none⟩) n cap) n cs) {j : Nat} {y : Value} (hj : cs[j]? = some y) : X.cell? ⟨g, j, none⟩ = some y := by
  have hl : j < cs.length := by
    rcases Nat.lt_or_ge j cs.length with h | h
    · exact h
    · rw [List.getElem?_eq_none h] at hj; cases hj
  rw [ho.cellAt j (by have := ho.1; omega)]
  exact hj
theorem row_shape {X : World} {B n : Nat} {v : Value} {cs : List Value} (ho : X.ownsRow B 31 3 v n cs) (hn : 0 < n) : ∃ g cap, v = .slice (some ⟨g, 0, none⟩) n cap := by
  rcases ho.2 with ⟨_, h0⟩ | ⟨g, cap, cur, rfl, _⟩
  · omega
  · exact ⟨g, cap, rfl⟩

theorem Both.at {w X : World} {H : Nat} {wv gv : Value} {os : List Wr} (h : Both w X H wv gv os) (i : Nat) (hi : i < os.length) :
    ∃ g1 p1 g2 p2 a1 c1 a2 c2 a3 c3 a4 c4 L, wv = .slice (some ⟨g1, 0, none⟩) os.length p1 ∧ gv = .slice (some ⟨g2, 0, none⟩) os.length p2 ∧
      X.cell? ⟨g1, i * 3, none⟩ = some (.slice a1 os[i].key.length c1) ∧ BytesAt X a1 os[i].key.length os[i].key ∧ X.cell? ⟨g1, i * 3 + 1, none⟩ = some (.slice a2 L.length c2) ∧ BytesAt X a2 L.length L ∧ X.cell? ⟨g1, i * 3 + 2, none⟩ = some (.bool os[i].val.isNone) ∧
      X.cell? ⟨g2, i * 3, none⟩ = some (.slice a3 os[i].key.length c3) ∧ BytesAt X a3 os[i].key.length os[i].key ∧ X.cell? ⟨g2, i * 3 + 1, none⟩ = some (.slice a4 L.length c4) ∧ BytesAt X a4 L.length L ∧ X.cell? ⟨g2, i * 3 + 2, none⟩ = some (.bool os[i].val.isNone) ∧
      (os[i].val.isNone = true → a4 = none) := by
  obtain ⟨⟨cs1, o1, m1⟩, ⟨cs2, o2, m2⟩, hb⟩ := h
  obtain ⟨g1, p1, rfl⟩ := row_shape o1 (by omega)
  obtain ⟨g2, p2, rfl⟩ := row_shape o2 (by omega)
  obtain ⟨k1, v1, d1, x1, x2, x3, ⟨a1, c1, rfl, b1⟩, rfl, n1, s1⟩ := m1.at i hi
  obtain ⟨k2, v2, d2, y1, y2, y3, hk2, rfl, n2, s2⟩ := m2.at i hi
  obtain ⟨a3, c3, rfl, b3⟩ := ownsRow_bytes hk2
  have X1 := row_cell o1 x1
  have X2 := row_cell o1 x2
  have X3 := row_cell o1 x3
  have Y1 := row_cell o2 y1
  have Y2 := row_cell o2 y2
  have Y3 := row_cell o2 y3
  rw [Nat.mul_comm] at X1 X2 X3 Y1 Y2 Y3
  cases hv : os[i].val with
  | none =>
    obtain rfl := n1 hv
    obtain rfl := n2 hv
    rw [hv] at X3 Y3
    exact ⟨g1, p1, g2, p2, a1, c1, none, 0, a3, c3, none, 0, [], rfl, rfl, X1, b1.below hb, X2, BytesAt.nil _ _, X3, Y1, b3, Y2, BytesAt.nil _ _, Y3, fun _ => rfl⟩
  | some x =>
    obtain ⟨a2, c2, rfl, b2⟩ := s1 x hv
    obtain ⟨a4, c4, rfl, b4⟩ := ownsRow_bytes (s2 x hv)
    rw [hv] at X3 Y3
    exact ⟨g1, p1, g2, p2, a1, c1, a2, c2, a3, c3, a4, c4, x, rfl, rfl, X1, b1.below hb, X2, b2.below hb, X3, Y1, b3, Y2, b4, Y3, fun h => by cases h⟩

set_option maxRecDepth 100000 in
set_option maxHeartbeats 4000000 in
theorem am_long (a : Option Addr) (n c : Nat) (w : World) (hn : 1048576 < n) :
    Calls Ybaf.prog 3 #[.slice a n c] w fun e w' => e = .returned (.bool true) ∧ Below w.heap.size w w' := by
  have hg : (1048576 : Int) < (n : Int) := by omega
  go_enter Ybaf.func3, Ybaf.ntmps3
  go_wp2
  go_ret
  exact ⟨rfl, Below.refl _ _⟩

set_option maxRecDepth 100000 in
set_option maxHeartbeats 4000000 in
theorem am_core (F : Interp) (a : Option Addr) (n c : Nat) (l : List UInt8) (w : World) (hF : F.answers w.tape) (hS : Sen w) (h : BytesAt w a n l) (hnc : n ≤ c) (hn : n ≤ 1048576) :
    Calls Ybaf.prog 3 #[.slice a n c] w fun e w' => e = .returned (.bool true) ∧ Below w.heap.size w w' := by
  have hg : ¬ (1048576 : Int) < (n : Int) := by omega
  have HF : Hid (F.answers w.tape) := hF
  have HS : Hid (Sen w) := hS
  have HB : Hid (BytesAt w a n l) := h
  clear hF hS h
  go_enter Ybaf.func3, Ybaf.ntmps3
  go_wp2_with fail
  refine (model_any a n c l w HB.out hnc hn).mono ?_
  rintro e W1 ⟨hb1, hend⟩
  have HC : Hid (∀ (_ : True), Calls Ybaf.prog 7 #[.slice a n c] W1 (DecEnd W1 l)) := fun _ => decodeWrites_any F a n c l W1 (answers_below HF.out hb1) (Sen.below (show Sen w from HS.out) hb1) (HB.out.below hb1) hnc (by omega)
  have HB1 : Hid (Below w.heap.size w W1) := hb1
  clear hb1
  rcases hend with ⟨hd, rfl⟩ | ⟨os, v1, hd, rfl, hops⟩
  · have HD : Hid (dec l = none) := hd
    clear hd
    go_wp2_with fail
    refine (HC.out trivial).mono ?_
    rintro e W2 ⟨hb2, hend⟩
    rw [HD.out] at hend
    rcases hend with ⟨_, t, y, rfl⟩ | ⟨os, v, h0, _⟩
    · have HX : Hid (Below w.heap.size w W2) := HB1.out.trans (hb2.mono HB1.out.size)
      clear hb2 HC HB1 HD
      have h1 : ∀ W : World, (binOp .neq 27 (.iface t y) .nilIface).run Ybaf.prog W = .ok (.bool true) W := fun W => by go_simp
      have h2 : ∀ W : World, (binOp .eql 23 (.slice none 0 0) (.slice none 0 0)).run Ybaf.prog W = .ok (.bool true) W := fun W => by
        have := Lib.run_eql_slice_nil (P := Ybaf.prog) W 23 31 none 0 0 0 0 Ybaf.underlying23
        exact this
      go_wp2
      go_ret
      exact ⟨rfl, HX.out⟩
    · cases h0
  · have HD : Hid (dec l = some os) := hd
    have HM : Hid (OpsM w W1 w.heap.size v1 os) := hops
    clear hd hops
    go_wp2_with fail
    refine (HC.out trivial).mono ?_
    rintro e W2 ⟨hb2, hend⟩
    rw [HD.out] at hend
    rcases hend with ⟨h0, _⟩ | ⟨os', v2, h0, rfl, hops, hnil⟩
    · cases h0
    obtain rfl := Option.some.inj h0
    have HX : Hid (Both w W2 W1.heap.size v1 v2 os) := ⟨HM.out.below hb2, hops, HB1.out.trans (hb2.mono HB1.out.size)⟩
    have hsz1 : ∃ a1 c1, v1 = .slice a1 os.length c1 := by
      obtain ⟨cs, ho, _⟩ := HM.out
      rcases ho.2 with ⟨rfl, h0⟩ | ⟨g, cap, cur, rfl, _⟩
      · exact ⟨none, 0, by rw [h0]⟩
      · exact ⟨_, _, rfl⟩
    have hsz2 : ∃ a2 c2, v2 = .slice a2 os.length c2 := by
      obtain ⟨cs, ho, _⟩ := hops
      rcases ho.2 with ⟨rfl, h0⟩ | ⟨g, cap, cur, rfl, _⟩
      · exact ⟨none, 0, by rw [h0]⟩
      · exact ⟨_, _, rfl⟩
    have hosl : os.length ≤ 9223372036854775807 := by
      obtain ⟨cs, ho, _⟩ := HM.out
      rcases ho.2 with ⟨_, h0⟩ | ⟨g, cap, cur, _, _, _, h1, h2, _⟩
      · omega
      · unfold maxLen at h2; omega
    obtain ⟨w1a, w1c, rfl⟩ := hsz1
    obtain ⟨g1a, g1c, rfl⟩ := hsz2
    clear hb2 HC HM hops HD HF HS HB h0 HB1
    generalize W1.heap.size = H at *
    by_cases hz : os.length = 0
    · have hos : os = [] := List.eq_nil_of_length_eq_zero hz
      have hv2 := hnil.2 hos
      simp only [Value.slice.injEq] at hv2
      obtain ⟨rfl, _, rfl⟩ := hv2
      rw [hz]
      have h2 : ∀ W : World, (binOp .eql 23 (.slice none 0 0) (.slice none 0 0)).run Ybaf.prog W = .ok (.bool true) W := fun W => by
        have := Lib.run_eql_slice_nil (P := Ybaf.prog) W 23 31 none 0 0 0 0 Ybaf.underlying23
        exact this
      clear hnil
      go_wp2
      go_ret
      exact ⟨rfl, HX.out.2.2⟩
    · have hz' : ((os.length : Int) == 0) = false := by rw [beq_eq_false_iff_ne]; omega
      clear hnil
      go_wp2
      go_loopw [7] (fun jv wy => ∃ j : Nat, j ≤ os.length ∧ jv = .int .i64 j ∧ Hid (Both w wy H (.slice w1a os.length w1c) (.slice g1a os.length g1c) os)) (fun jv _ => os.length - (intOf jv).toNat)
      case atStart => exact ⟨0, Nat.zero_le _, rfl, HX⟩
      case round =>
        clear HX
        obtain ⟨k, hk, rfl, HX⟩ := hrel
        by_cases hlt : k < os.length
        · obtain ⟨g1, p1, g2, p2, a1, c1, a2, c2, a3, c3, a4, c4, L, e1, e2, x1, b1, x2, b2, x3, y1, b3, y2, b4, y3, hn4⟩ := HX.out.at k hlt
          simp only [Value.slice.injEq] at e1 e2
          obtain ⟨rfl, -, rfl⟩ := e1
          obtain ⟨rfl, -, rfl⟩ := e2
          have HC1 : Hid (∀ m, Calls Ybaf.prog 8 #[.slice a3 os[k].key.length c3, .slice a1 os[k].key.length c1] (wr.drewN m) fun e w' => e = .returned (.bool true) ∧ w' = wr.drewN m) :=
            fun m => (equal_any (w := wr.drewN m) b3 b1).mono fun _ _ ⟨he, hw⟩ => ⟨by rw [he]; simp, hw⟩
          have HC2 : Hid (∀ m, Calls Ybaf.prog 8 #[.slice a4 L.length c4, .slice a2 L.length c2] (wr.drewN m) fun e w' => e = .returned (.bool true) ∧ w' = wr.drewN m) :=
            fun m => (equal_any (w := wr.drewN m) b4 b2).mono fun _ _ ⟨he, hw⟩ => ⟨by rw [he]; simp, hw⟩
          have HFn : Hid (∀ m, Both w (wr.drewN m) H (.slice (some ⟨g1, 0, none⟩) os.length w1c) (.slice (some ⟨g2, 0, none⟩) os.length g1c) os) := fun m => HX.out.drewN m
          clear b1 b2 b3 b4 HX
          generalize os[k].key.length = KL at *
          generalize L.length = VL at *
          have l1 : (k : Int) < (os.length : Int) := by omega
          have l0 : (0 : Int) ≤ (k : Int) := by omega
          cases hdel : os[k].val.isNone with
          | true =>
            rw [hdel] at x3 y3
            obtain rfl := hn4 hdel
            have hne : ∀ W : World, (binOp .neq 22 (.slice none VL c4) (.slice none 0 0)).run Ybaf.prog W = .ok (.bool false) W := fun W => run_neq_slice_nil_any W 22 5 none VL c4 0 0 Ybaf.underlying22
            clear hn4 hdel
            go_upto_region 14 with (fail)
            go_quiet (first | (go_at_call 8; exact Calls.quiet_of_same (HC1.out _)) | (go_at_call 8; exact Calls.quiet_of_same (HC2.out _)))
            clear HC1 HC2
            go_wp2
            go_roundw
            case rel => exact ⟨k + 1, by omega, by go_num, HFn.out _⟩
            case measure => simp [intOf]; omega
          | false =>
            rw [hdel] at x3 y3
            clear hn4 hdel
            go_upto_region 14 with (fail)
            go_quiet (first | (go_at_call 8; exact Calls.quiet_of_same (HC1.out _)) | (go_at_call 8; exact Calls.quiet_of_same (HC2.out _)))
            clear HC1 HC2
            go_wp2
            go_roundw
            case rel => exact ⟨k + 1, by omega, by go_num, HFn.out _⟩
            case measure => simp [intOf]; omega
        · go_wp2
          go_ret
          exact ⟨rfl, HX.out.2.2⟩

end Go.Proofs.YbulkbgzmFmt
