/-
  'zzs2894bbuild' AND 'without' BY CONTRACTS: what lies in memory is said by rows.
-/
import Derived.Test.YbulkbgxiProg
import Derived.WalkKit
import Derived.ProofKit
import Derived.Below
import Derived.Outline
import Derived.WalkSpells
import Derived.Deep.OwnRows
import Derived.RegionTactic
namespace Go.Proofs.Ybulkbgxi
open Go.RowKit

theorem info27 : (Yba.prog.info? 27).map (fun i => (i.zero, i.size, i.bytes)) = some (some (.pointer none), 1, 8) := by kernel_rfl

/-- The j-th read's block. -/
abbrev rd (B j : Nat) : Value := .pointer (some ⟨B + 2 + j, 0, none⟩)

/-- After k rounds of 'build': both rows are filled up to k, and k reads have been made. -/
def Blt (w : World) (B n k : Nat) : Prop :=
  w.heap.size = B + 2 + k ∧ w.rowIs B 27 n (fun j => if j < k then rd B j else .pointer none) ∧ w.rowIs (B + 1) 27 n (fun j => if j < k then rd B j else .pointer none) ∧
    ∀ j, j < k → ∃ f, w.rowIs (B + 2 + j) 42 18 f ∧ f 14 = .int .i64 j

theorem Blt.start (w : World) (n : Nat) : Blt ((w.alloc (.cells (madeCells #[.pointer none] n) 27)).alloc (.cells (madeCells #[.pointer none] n) 27)) w.heap.size n 0 := by
  refine ⟨by simp, ?_, ?_, fun j hj => absurd hj (by omega)⟩
  · exact ((World.rowIs_made w (.pointer none) n 27).alloc _).congr (fun i _ => by simp)
  · have h := (World.rowIs_made (w.alloc (.cells (madeCells #[.pointer none] n) 27)) (.pointer none) n 27)
    rw [show (w.alloc (.cells (madeCells #[.pointer none] n) 27)).heap.size = w.heap.size + 1 by simp] at h
    exact h.congr (fun i _ => by simp)

theorem Blt.step {w : World} {B n k : Nat} (h : Blt w B n k) (C : Array Value) (hC : C.size = 18) (h14 : C[14]? = some (.int .i64 k)) :
    Blt (((w.alloc (.cells C 42)).setCell ⟨B, k, none⟩ (rd B k)).setCell ⟨B + 1, k, none⟩ (rd B k)) B n (k + 1) := by
  obtain ⟨hs, h1, h2, h3⟩ := h
  refine ⟨by simp [World.setCell, hs]; omega, ?_, ?_, fun j hj => ?_⟩
  · refine (((h1.alloc (.cells C 42)).set k (rd B k)).setOther (a := ⟨B + 1, k, none⟩) (by simp) (rd B k)).congr (fun i _ => ?_)
    by_cases e : i = k
    · subst e; simp
    · by_cases e2 : i < k
      · simp [e, e2, show i < k + 1 by omega]
      · simp [e, e2, show ¬ i < k + 1 by omega]
  · refine (((h2.alloc (.cells C 42)).setOther (a := ⟨B, k, none⟩) (by simp) (rd B k)).set k (rd B k)).congr (fun i _ => ?_)
    by_cases e : i = k
    · subst e; simp
    · by_cases e2 : i < k
      · simp [e, e2, show i < k + 1 by omega]
      · simp [e, e2, show ¬ i < k + 1 by omega]
  · by_cases e : j = k
    · subst e
      refine ⟨fun i => C.getD i undef, ?_, by simp [Array.getD, hC]; simpa [hC] using h14⟩
      have hr := World.rowIs_alloc w C 42 (fun i => C.getD i undef) (fun i hi => by simp [Array.getD, hi])
      rw [hs, hC] at hr
      exact (hr.setOther (a := ⟨B, j, none⟩) (by simp; omega) _).setOther (a := ⟨B + 1, j, none⟩) (by simp; omega) _
    · obtain ⟨f, hf, hf14⟩ := h3 j (by omega)
      exact ⟨f, ((hf.alloc _).setOther (a := ⟨B, k, none⟩) (by simp; omega) _).setOther (a := ⟨B + 1, k, none⟩) (by simp; omega) _, hf14⟩

set_option maxRecDepth 100000 in
set_option maxHeartbeats 400000 in
theorem build_walk (n : Nat) (hn : n ≤ 300) (w : World) :
    Calls Yba.prog 7 #[.int .i64 n] w fun e w' => e = .returned (.tuple #[.slice (some ⟨w.heap.size, 0, none⟩) n n, .slice (some ⟨w.heap.size + 1, 0, none⟩) n n]) ∧
      Blt w' w.heap.size n n ∧ Below w.heap.size w w' := by
  have hmk := run_make_row' (P := Yba.prog) 24 27 (.pointer none) 8 Yba.underlying24 info27 rfl .i64 .i64 n (by omega) (by omega)
  go_enter Yba.func7, Yba.ntmps7
  go_wp2
  go_loopw [6] (fun i wr => ∃ k : Nat, k ≤ n ∧ i = .int .i64 k ∧ Blt wr w.heap.size n k ∧ Below w.heap.size w wr) (fun i _ => n - (intOf i).toNat)
  case atStart => exact ⟨0, Nat.zero_le _, rfl, Blt.start w n, ((Below.refl _ _).alloc (Nat.le_refl _) _).alloc (by simp) _⟩
  case round =>
    obtain ⟨k, hk, rfl, hb, hbel⟩ := hrel
    clear hmk
    have HB : Hid (Blt wr w.heap.size n k) := hb
    have HL : Hid (Below w.heap.size w wr) := hbel
    by_cases hlt : k < n
    · have hs : wr.heap.size = w.heap.size + 2 + k := hb.1
      have hc1 : ∀ o, (wr.alloc o).cell? ⟨w.heap.size, k, none⟩ = some (.pointer none) := fun o => by rw [(hb.2.1.alloc o).cell hlt]; simp
      have hc2 : ∀ o, (wr.alloc o).cell? ⟨w.heap.size + 1, k, none⟩ = some (.pointer none) := fun o => by rw [(hb.2.2.1.alloc o).cell hlt]; simp
      have hf1 : ∀ o, (wr.alloc o).frozen? ⟨w.heap.size, k, none⟩ = false := fun o => (hb.2.1.alloc o).frozen _
      have hf2 : ∀ o, (wr.alloc o).frozen? ⟨w.heap.size + 1, k, none⟩ = false := fun o => (hb.2.2.1.alloc o).frozen _
      clear hb hbel
      go_wp2
      go_roundw
      case rel => exact ⟨k + 1, by omega, by go_num, HB.out.step _ rfl rfl, ((HL.out.alloc HL.out.size _).setCell (Nat.le_refl _) _).setCell (Nat.le_succ _) _⟩
      case measure => simp [intOf]; omega
    · have e : k = n := by omega
      subst e
      clear hb hbel
      go_wp2
      go_ret2
      exact ⟨rfl, HB.out, HL.out⟩

end Go.Proofs.Ybulkbgxi
