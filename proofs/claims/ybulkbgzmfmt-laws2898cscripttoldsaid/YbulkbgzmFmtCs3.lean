/-
  CScript: NODES, asked.
-/
import Derived.Test.YbulkbgzmFmtCs2
namespace Go.Proofs.YbulkbgzmFmt
open Go.RowKit Go.Stop
set_option linter.unusedVariables false

theorem nil89 (w : World) : (binOp .eql 89 (.slice none 0 0) (.slice none 0 0)).run Ybaf.prog w = .ok (.bool true) w := Lib.run_eql_slice_nil (P := Ybaf.prog) w 89 57 none 0 0 0 0 Ybaf.underlying89
theorem some89 (w : World) (a : Addr) (n c : Nat) : (binOp .eql 89 (.slice (some a) n c) (.slice none 0 0)).run Ybaf.prog w = .ok (.bool false) w := Lib.run_eql_slice_nil (P := Ybaf.prog) w 89 57 (some a) n c 0 0 Ybaf.underlying89
theorem neqnil89 (w : World) : (binOp .neq 89 (.slice none 0 0) (.slice none 0 0)).run Ybaf.prog w = .ok (.bool false) w := run_neq_slice_nil_any w 89 57 none 0 0 0 0 Ybaf.underlying89
theorem neqsome89 (w : World) (a : Addr) (n c : Nat) : (binOp .neq 89 (.slice (some a) n c) (.slice none 0 0)).run Ybaf.prog w = .ok (.bool true) w := run_neq_slice_nil_any w 89 57 (some a) n c 0 0 Ybaf.underlying89

set_option maxRecDepth 100000 in
theorem size_leaf {w : World} {p : Value} {ks vs : List Value} (h : LeafV w p ks vs) : Calls Ybaf.prog 41 #[p] w fun e w' => e = .returned (.int .i64 ks.length) ∧ w' = w := by
  obtain ⟨b, a1, c1, a2, c2, rfl, hN, _⟩ := h
  have h0 := hN.c0
  have h2 := hN.c2
  have n1 := nil89
  clear hN
  go_enter Ybaf.func41, Ybaf.ntmps41
  go_wp2
  go_ret
  exact ⟨rfl, rfl⟩

set_option maxRecDepth 100000 in
theorem over_leaf {w : World} {p : Value} {ks vs : List Value} (h : LeafV w p ks vs) : Calls Ybaf.prog 40 #[p] w fun e w' => e = .returned (.bool (decide (32 < ks.length))) ∧ w' = w := by
  obtain ⟨b, a1, c1, a2, c2, rfl, hN, _⟩ := h
  have h0 := hN.c0
  have h2 := hN.c2
  have n1 := nil89
  have hd : decide ((32 : Int) < (ks.length : Int)) = decide (32 < ks.length) := by rw [decide_eq_decide]; omega
  clear hN
  go_enter Ybaf.func40, Ybaf.ntmps40
  go_wp2
  go_ret
  exact ⟨by rw [← hd]; rfl, rfl⟩

set_option maxRecDepth 100000 in
theorem over_inner {w : World} {p : Value} {ks cs : List Value} (h : InnerV w p ks cs) : Calls Ybaf.prog 40 #[p] w fun e w' => e = .returned (.bool (decide (16 < cs.length))) ∧ w' = w := by
  obtain ⟨b, a1, c1, a2, c2, rfl, hN, -, -, -, -, -, -, g2, o2, rfl⟩ := h
  have h0 := hN.c0
  have h2 := hN.c2
  have n1 := some89
  have hd : decide ((16 : Int) < (cs.length : Int)) = decide (16 < cs.length) := by rw [decide_eq_decide]; omega
  clear hN
  go_enter Ybaf.func40, Ybaf.ntmps40
  go_wp2
  go_ret
  exact ⟨by rw [← hd]; rfl, rfl⟩

set_option maxRecDepth 100000 in
theorem under_leaf {w : World} {p : Value} {ks vs : List Value} (h : LeafV w p ks vs) : Calls Ybaf.prog 43 #[p] w fun e w' => e = .returned (.bool (decide (ks.length < 16))) ∧ w' = w := by
  obtain ⟨b, a1, c1, a2, c2, rfl, hN, _⟩ := h
  have h0 := hN.c0
  have h2 := hN.c2
  have n1 := nil89
  have hd : decide ((ks.length : Int) < 16) = decide (ks.length < 16) := by rw [decide_eq_decide]; omega
  clear hN
  go_enter Ybaf.func43, Ybaf.ntmps43
  go_wp2
  go_ret
  exact ⟨by rw [← hd]; rfl, rfl⟩

/-- The child under which k lies. -/
def under (ks : List Nat) (k i : Nat) : Nat := if isAt ks k i then i + 1 else i

set_option maxRecDepth 100000 in
theorem child_any {w : World} {p : Value} {ks cs : List Value} {kn : List Nat} {k : Nat} {a : Option Addr} {c : Nat} (h : InnerV w p ks cs) (hk : KeysAt w ks kn) (hn : ks.length ≤ 64) (hkey : BytesAt w a 2 (keyB k)) (hk40 : k < 40) (hasc : Asc kn) :
    Calls Ybaf.prog 34 #[p, .slice a 2 c] w fun e w' => ∃ i, e = .returned (.int .i64 (under kn k i : Nat)) ∧ Found kn k i ∧ w' = w := by
  obtain ⟨b, a1, c1, a2, c2, rfl, hN, hr, _⟩ := h
  have h0 := hN.c0
  have HS := search_any (c := c1) (c2 := c) hr hk rfl hn hkey hk40 hasc
  have hkl : kn.length ≤ 64 := by rw [← hk.1]; exact hn
  clear hN hk hkey hr
  go_enter Ybaf.func34, Ybaf.ntmps34
  go_wp2_with fail
  refine HS.mono ?_
  rintro e w1 ⟨i, rfl, hf, rfl⟩
  have HF : Hid (Found kn k i) := hf
  have hi : i ≤ 64 := Nat.le_trans hf.1 hkl
  clear hf HS
  generalize hfd : isAt kn k i = fd at *
  cases fd with
  | true =>
    go_wp2
    go_ret
    exact ⟨i, by unfold under; rw [hfd]; simp, HF.out, rfl⟩
  | false =>
    go_wp2
    go_ret
    exact ⟨i, by unfold under; rw [hfd]; simp, HF.out, rfl⟩

end Go.Proofs.YbulkbgzmFmt
