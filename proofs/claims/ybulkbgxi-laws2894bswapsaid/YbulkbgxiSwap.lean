/-
  'LawS2894BSwap': THE WALK.
-/
import Derived.Test.YbulkbgxiWithout
namespace Go.Proofs.Ybulkbgxi
open Go.RowKit

theorem build_succ (m : Nat) (hn : m < 300) (w : World) :
    Calls Yba.prog 7 #[.int .i64 ((m : Int) + 1)] w fun e w' => e = .returned (.tuple #[.slice (some ⟨w.heap.size, 0, none⟩) (m + 1) (m + 1), .slice (some ⟨w.heap.size + 1, 0, none⟩) (m + 1) (m + 1)]) ∧
      Rds w' w.heap.size (m + 1) some id ∧ Below w.heap.size w w' := by
  have h := build_walk (m + 1) (by omega) w
  rw [show (((m + 1 : Nat) : Int)) = (m : Int) + 1 from by omega] at h
  exact h.mono fun e w' ⟨h1, h2, h3⟩ => ⟨h1, h2.rds, h3⟩

set_option maxRecDepth 100000 in
set_option maxHeartbeats 800000 in
theorem swap_core (n0 s0 m k : Nat) (hn0 : n0 < 65536) (hs0 : s0 < 4294967296) (hm : m < 300) (hk : k ≤ m) (em : (n0 : Int) % 300 = (m : Int)) (ek : (s0 : Int) % ((m : Int) + 1) = (k : Int)) (w : World) :
    Calls Yba.prog 3 #[.int .u16 n0, .int .u32 s0] w fun e w' => e = .returned (.bool true) ∧ Below w.heap.size w w' := by
  go_enter Yba.func3, Yba.ntmps3
  go_wp2_with fail
  refine (build_succ m hm _).mono ?_
  rintro e w1 ⟨rfl, hR, hb1⟩
  have ho : w1.cell? ⟨w.heap.size + 1, k, none⟩ = some (rd w.heap.size k) := hR.orig k (by omega)
  have HB1 : Hid (Below w.heap.size w w1) := hb1
  have HR : Hid (Rds w1 w.heap.size (m + 1) some id) := hR
  clear hR hb1
  go_wp2_with fail
  refine (without_walk w.heap.size (m + 1) m k k m some id _ HR.out (by omega) (by omega) (by omega) (by omega) rfl rfl hk).mono ?_
  rintro e w2 ⟨rfl, hR2, hb2⟩
  have HB2 : Hid (Below w.heap.size w w2) := HB1.out.trans hb2
  have HR2 : Hid _ := hR2
  have hl1 : w2.cell? ⟨w.heap.size, m, none⟩ = some (.pointer none) := by rw [hR2.at m (by omega)]; simp
  have hl2 : w2.cell? ⟨w.heap.size + 2 + k, 14, none⟩ = some (.int .i64 k) := by rw [hR2.place k (by omega)]; simp
  clear hR2 hb2 HB1 HR ho
  go_wp2_with fail
  clear em ek hl1 hl2
  go_loop [11] (fun i => ∃ j : Nat, j ≤ m ∧ i = .int .i64 j) (fun i => m - (intOf i).toNat)
  case atStart => exact ⟨0, Nat.zero_le _, rfl⟩
  case round =>
    obtain ⟨j, hj, rfl⟩ := hrel
    by_cases hlt : j < m
    · by_cases ejk : j = k
      · have hjk : ((j : Int) == (k : Int)) = true := by simp [ejk]
        have ho1 : w2.cell? ⟨w.heap.size + 1, j, none⟩ = some (rd w.heap.size j) := HR2.out.2.1.cell (by omega)
        have ho2 : w2.cell? ⟨w.heap.size + 1, m, none⟩ = some (rd w.heap.size m) := HR2.out.2.1.cell (by omega)
        have hg : w2.cell? ⟨w.heap.size, j, none⟩ = some (rd w.heap.size m) := by
          rw [HR2.out.1.cell (show j < m + 1 by omega)]; simp [ejk, show ¬ k = m by omega]
        have hp : w2.cell? ⟨w.heap.size + 2 + m, 14, none⟩ = some (.int .i64 j) := by
          obtain ⟨f, hf, h14⟩ := HR2.out.2.2 m (by omega)
          rw [hf.cell (by omega), h14]; simp [ejk]
        have hneq := fun (w : World) (a : Addr) => neq_same a w
        clear HR2 ejk
        go_wp2
        go_round
        case rel => exact ⟨j + 1, by omega, by go_num⟩
        case measure => simp [intOf]; omega
      · have hjk : ((j : Int) == (k : Int)) = false := by simp; omega
        have ho1 : w2.cell? ⟨w.heap.size + 1, j, none⟩ = some (rd w.heap.size j) := HR2.out.2.1.cell (by omega)
        have hg : w2.cell? ⟨w.heap.size, j, none⟩ = some (rd w.heap.size j) := by
          rw [HR2.out.1.cell (show j < m + 1 by omega)]; simp [ejk, show ¬ j = m by omega]
        have hp : w2.cell? ⟨w.heap.size + 2 + j, 14, none⟩ = some (.int .i64 j) := by
          obtain ⟨f, hf, h14⟩ := HR2.out.2.2 j (by omega)
          rw [hf.cell (by omega), h14]; simp [show ¬ j = m by omega]
        have hneq := fun (w : World) (a : Addr) => neq_same a w
        clear HR2 ejk
        go_wp2
        go_round
        case rel => exact ⟨j + 1, by omega, by go_num⟩
        case measure => simp [intOf]; omega
    · go_wp2
      go_ret
      exact ⟨rfl, HB2.out⟩

theorem swap_walk (n0 s0 : Nat) (hn0 : n0 < 65536) (hs0 : s0 < 4294967296) (w : World) :
    Calls Yba.prog 3 #[.int .u16 n0, .int .u32 s0] w fun e w' => e = .returned (.bool true) ∧ Below w.heap.size w w' :=
  swap_core n0 s0 (n0 % 300) (s0 % (n0 % 300 + 1)) hn0 hs0 (by omega) (by have := Nat.mod_lt s0 (show 0 < n0 % 300 + 1 by omega); omega) (by omega) (Int.natCast_emod s0 (n0 % 300 + 1)).symm w

end Go.Proofs.Ybulkbgxi
