/-
  'wal.LawS2894CModel': THE WALKS.
-/
import Derived.Test.YbulkbgxiZero
import Derived.Outline
import Derived.WalkSpells
import Derived.Deep.OwnRows
import Derived.Deep.QuietTactic
import Derived.BigQuiet
import Derived.Laws.CopyOwn
namespace Go.Proofs.Ybulkbgxi
open Go.RowKit

theorem info5m : (Yba.prog.info? 5).map (fun i => (i.zero, i.size, i.bytes)) = some (some (.int .u8 0), 1, 1) := by kernel_rfl

/-- 'zzs2894cmodel': the same answer, found from the end. -/
theorem model_any (b off n cap : Nat) (zs : List Int) (w : World) (hz : zs.length = n) (hbig : n ≤ 9223372036854775807)
    (hc : ∀ j, j < n → w.cell? ⟨b, off + j, none⟩ = some (.int .u8 (zs.getD j 0))) :
    Calls Yba.prog 10 #[.slice (some ⟨b, off, none⟩) n cap] w fun e w' => e = .returned (.bool (allz zs)) ∧ w' = w := by
  have HZ : Hid (zs.length = n) := hz
  clear hz
  go_enter Yba.func10, Yba.ntmps10
  go_wp2
  go_loop [3] (fun i => ∃ k : Nat, k ≤ n ∧ i = .int .i64 k ∧ Hid (∀ j, k ≤ j → j < n → zs.getD j 0 = 0)) (fun i => (intOf i).toNat)
  case atStart => exact ⟨n, Nat.le_refl _, rfl, fun j h1 h2 => absurd h2 (by omega)⟩
  case round =>
    obtain ⟨k, hk, rfl, hall⟩ := hrel
    cases k with
    | zero =>
      have hf : allz zs = true := allz_true zs (fun j hj => hall.out j (by omega) (by have := HZ.out; omega))
      have HF : Hid (allz zs = true) := hf
      clear hf
      go_wp2
      go_ret
      exact ⟨ret_bool HF.out.symm, rfl⟩
    | succ k =>
      have hcell := hc k (by omega)
      clear hc
      by_cases h0 : zs.getD k 0 = 0
      · rw [h0] at hcell
        go_wp2
        go_round
        case rel => exact ⟨k, by omega, by go_num, fun j h1 h2 => by
          by_cases e : j = k
          · subst e; exact h0
          · exact hall.out j (by omega) h2⟩
        case measure => simp [intOf]
      · have hf : allz zs = false := allz_false zs k (by rw [HZ.out]; omega) h0
        have HF : Hid (allz zs = false) := hf
        clear hf
        have hne : (zs.getD k 0 != 0) = true := by simpa using h0
        generalize zs.getD k 0 = x at *
        go_wp2
        go_ret
        exact ⟨ret_bool HF.out.symm, rfl⟩

theorem model_empty (a : Option Addr) (cap : Nat) (w : World) :
    Calls Yba.prog 10 #[.slice a 0 cap] w fun e w' => e = .returned (.bool true) ∧ w' = w := by
  go_enter Yba.func10, Yba.ntmps10
  go_wp2
  go_loop [3] (fun i => i = .int .i64 0) (fun _ => 0)
  case atStart => rfl
  case round =>
    subst hrel
    go_wp2
    go_ret
    exact ⟨rfl, rfl⟩

theorem law_long (a : Option Addr) (n cap : Nat) (w : World) (h : 4096 < n) (hbig : n ≤ 9223372036854775807) :
    Calls Yba.prog 5 #[.slice a n cap] w fun e w' => e = .returned (.bool true) ∧ Below w.heap.size w w' := by
  have hg : (4096 : Int) < (n : Int) := by omega
  go_enter Yba.func5, Yba.ntmps5
  go_wp2
  go_ret
  exact ⟨rfl, Below.refl _ _⟩

/-- 'copy(c, b)' into a row just made, of the same length. -/
theorem copied (b off n cap : Nat) (zs : List Int) (w : World) (hz : zs.length = n)
    (hc : ∀ j, j < n → w.cell? ⟨b, off + j, none⟩ = some (.int .u8 (zs.getD j 0))) :
    ∃ W, (Builtin.copy_ #[47, 47] 3 #[.slice (some ⟨w.heap.size, 0, none⟩) n n, .slice (some ⟨b, off, none⟩) n cap]).run Yba.prog (w.alloc (.cells (madeCells #[.int .u8 0] n) 5)) = .ok (.int .i64 n) W ∧
      W.rowIs w.heap.size 5 n (fun j => .int .u8 (zs.getD j 0)) ∧ Below w.heap.size w W := by
  have hb0 : (w.alloc (.cells (madeCells #[.int .u8 0] n) 5)).heap[w.heap.size]? = some (.cells (madeCells #[.int .u8 0] n) 5 (0, 0)) := (MapKept.heap_alloc w _).1
  have hlen : (zs.map (Value.int .u8)).length = n := by simpa using hz
  have hr := run_copy_row (P := Yba.prog) (w.alloc (.cells (madeCells #[.int .u8 0] n) 5)) 47 47 3 5 w.heap.size 0 n n ⟨b, off, none⟩ n cap (madeCells #[.int .u8 0] n) 5 (zs.map (Value.int .u8)) Yba.underlying47 (by kernel_rfl) hb0
    (by rw [hlen]; exact (Nat.min_self n).symm)
    (fun j v hv => by
      have hj : j < n := by have := (List.getElem?_eq_some_iff.1 hv).1; omega
      have h := hc j hj
      rw [Addr.add_lit, World.cell?_alloc_lt _ _ _ (World.block_lt_of_cell? _ _ h), h, ← hv]
      simp [List.getD, hz, hj])
    (by rw [hlen, size_madeCells]; omega)
    (ints_oneCell _ _)
  rw [hlen] at hr
  refine ⟨_, hr, ?_, below_setRow ((Below.refl _ _).alloc (Nat.le_refl _) _) (Nat.le_refl _) _⟩
  refine ⟨_, setRow_heap _ _ _ _ _ _ hb0, ?_, fun j hj => ?_⟩
  · simp [size_madeCells, hz]
  · have e : (madeCells #[Value.int .u8 0] n).toList.drop (0 + n) = [] := List.drop_eq_nil_of_le (by simp [size_madeCells])
    rw [e]
    simp [List.getD, hz, hj]

set_option maxRecDepth 100000 in
set_option maxHeartbeats 400000 in
theorem law_core (b off n cap : Nat) (zs : List Int) (w : World) (hz : zs.length = n) (hn : n ≤ 4096)
    (hc : ∀ j, j < n → w.cell? ⟨b, off + j, none⟩ = some (.int .u8 (zs.getD j 0))) :
    Calls Yba.prog 5 #[.slice (some ⟨b, off, none⟩) n cap] w fun e w' => e = .returned (.bool true) ∧ Below w.heap.size w w' := by
  have hmk := run_make_row' (P := Yba.prog) 47 5 (.int .u8 0) 1 Yba.underlying47 info5m rfl .i64 .i64 n (by omega) (by omega)
  have hg : ¬ (4096 : Int) < (n : Int) := by omega
  obtain ⟨W, hcp, hrow, hbel⟩ := copied b off n cap zs w hz hc
  have HZ : Hid (zs.length = n) := hz
  have HC : Hid (∀ j, j < n → W.cell? ⟨b, off + j, none⟩ = some (.int .u8 (zs.getD j 0))) := fun j hj => (hbel.cell (World.block_lt_of_cell? _ _ (hc j hj))).trans (hc j hj)
  have HR : Hid (W.rowIs w.heap.size 5 n (fun j => .int .u8 (zs.getD j 0))) := hrow
  have HB : Hid (Below w.heap.size w W) := hbel
  clear hz hc hrow hbel
  go_enter Yba.func5, Yba.ntmps5
  go_wp2_with fail
  refine (zero_any _ _ n _ zs _ HZ.out (by omega) (fun j hj => by rw [Nat.zero_add]; exact HR.out.cell hj)).mono ?_
  rintro e w1 ⟨rfl, rfl⟩
  clear hmk hcp
  go_wp2_with fail
  refine (model_any _ _ n _ zs _ HZ.out (by omega) HC.out).mono ?_
  rintro e w2 ⟨rfl, rfl⟩
  generalize allz zs = az at *
  have hne : (az != az) = false := by simp
  go_wp2_with fail
  go_loopw [5] (fun i wr => ∃ k : Nat, k ≤ n ∧ i = .int .i64 k ∧ Hid (Below w.heap.size w wr) ∧ Hid (∀ j, j < n → wr.cell? ⟨b, off + j, none⟩ = some (.int .u8 (zs.getD j 0))) ∧ Hid (∀ j, j < n → wr.cell? ⟨w.heap.size, j, none⟩ = some (.int .u8 (zs.getD j 0)))) (fun i _ => n - (intOf i).toNat)
  case atStart => exact ⟨0, Nat.zero_le _, rfl, HB, HC, fun j hj => HR.out.cell hj⟩
  case round =>
    clear HB HC HR
    obtain ⟨k, hk, rfl, HB, HC, HD⟩ := hrel
    by_cases hlt : k < n
    · have h1 := HC.out k hlt
      have h2 := HD.out k hlt
      have hki : (k : Int) < (n : Int) := by omega
      generalize zs.getD k 0 = x at h1 h2
      go_wp2
      go_quiet (fail)
      go_wp2
      go_roundw
      case rel => exact ⟨k + 1, by omega, by go_num, ⟨HB.out.os, HB.out.tape, HB.out.output, HB.out.size, HB.out.block⟩, HC, HD⟩
      case measure => simp [intOf]; omega
    · go_wp2
      go_ret
      exact ⟨rfl, HB.out⟩

set_option maxRecDepth 100000 in
set_option maxHeartbeats 400000 in
theorem law_empty (a : Option Addr) (cap : Nat) (w : World) :
    Calls Yba.prog 5 #[.slice a 0 cap] w fun e w' => e = .returned (.bool true) ∧ Below w.heap.size w w' := by
  have hmk : ∀ w : World, (Instr.makeSlice 47 (.int .i64 0) (.int .i64 0)).run Yba.prog w = .ok (.slice (some ⟨w.heap.size, 0, none⟩) 0 0) (w.alloc (.cells (madeCells #[.int .u8 0] 0) 5)) :=
    run_make_row' (P := Yba.prog) 47 5 (.int .u8 0) 1 Yba.underlying47 info5m rfl .i64 .i64 0 (by omega) (by omega)
  have hcp := run_copy_none (P := Yba.prog) (w.alloc (.cells (madeCells #[.int .u8 0] 0) 5)) 47 47 3 5 (some ⟨w.heap.size, 0, none⟩) a 0 0 0 cap Yba.underlying47 (by kernel_rfl) rfl
  go_enter Yba.func5, Yba.ntmps5
  go_wp2_with fail
  refine (zero_empty _ _ _).mono ?_
  rintro e w1 ⟨rfl, rfl⟩
  clear hmk hcp
  go_wp2_with fail
  refine (model_empty _ _ _).mono ?_
  rintro e w2 ⟨rfl, rfl⟩
  go_wp2_with fail
  go_loop [5] (fun i => i = .int .i64 0) (fun _ => 0)
  case atStart => rfl
  case round =>
    subst hrel
    go_wp2
    go_ret
    exact ⟨rfl, (Below.refl _ _).alloc (Nat.le_refl _) _⟩

end Go.Proofs.Ybulkbgxi
