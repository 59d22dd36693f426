/-
  'wal.zero' BY A CONTRACT: a slice of bytes, of whatever length: true where each byte is 0.
-/
import Derived.Test.YbulkbgxiProg
import Derived.WalkKit
import Derived.ProofKit
import Derived.Below
namespace Go.Proofs.Ybulkbgxi
open Go.RowKit

/-- Each number of the list is 0. -/
def allz (zs : List Int) : Bool := zs.all (fun z => decide (z = 0))
theorem allz_true (zs : List Int) (h : ∀ j, j < zs.length → zs.getD j 0 = 0) : allz zs = true := by
  unfold allz
  rw [List.all_eq_true]
  intro x hx
  obtain ⟨j, hj, rfl⟩ := List.mem_iff_getElem.1 hx
  have := h j hj
  simp [List.getD, hj] at this
  simp [this]
theorem allz_false (zs : List Int) (j : Nat) (hj : j < zs.length) (h : zs.getD j 0 ≠ 0) : allz zs = false := by
  unfold allz
  rw [List.all_eq_false]
  refine ⟨zs[j], List.getElem_mem hj, ?_⟩
  simp [List.getD, hj] at h
  simp [h]

theorem ret_bool {a b : Bool} (h : a = b) : Ending.returned (.bool a) = .returned (.bool b) := by rw [h]

theorem zero_empty (a : Option Addr) (cap : Nat) (w : World) :
    Calls Yba.prog 9 #[.slice a 0 cap] w fun e w' => e = .returned (.bool true) ∧ w' = w := by
  go_enter Yba.func9, Yba.ntmps9
  go_wp2
  go_loop [7] (fun i => i = .int .i64 0) (fun _ => 0)
  case atStart => rfl
  case round =>
    subst hrel
    go_wp2
    go_ret
    exact ⟨rfl, rfl⟩

theorem zero_any (b off n cap : Nat) (zs : List Int) (w : World) (hz : zs.length = n) (hbig : n ≤ 9223372036854775807)
    (hc : ∀ j, j < n → w.cell? ⟨b, off + j, none⟩ = some (.int .u8 (zs.getD j 0))) :
    Calls Yba.prog 9 #[.slice (some ⟨b, off, none⟩) n cap] w fun e w' => e = .returned (.bool (allz zs)) ∧ w' = w := by
  have HZ : Hid (zs.length = n) := hz
  clear hz
  go_enter Yba.func9, Yba.ntmps9
  go_wp2
  go_loop [7] (fun i => ∃ k : Nat, k ≤ n ∧ i = .int .i64 k ∧ Hid (∀ j, j < k → zs.getD j 0 = 0)) (fun i => n - (intOf i).toNat)
  case atStart => exact ⟨0, Nat.zero_le _, rfl, fun j hj => absurd hj (by omega)⟩
  case round =>
    obtain ⟨k, hk, rfl, hall⟩ := hrel
    by_cases hlt : k < n
    · have hcell := hc k hlt
      clear hc
      by_cases h0 : zs.getD k 0 = 0
      · rw [h0] at hcell
        go_wp2
        go_round
        case rel => exact ⟨k + 1, by omega, by go_num, fun j hj => by
          by_cases e : j < k
          · exact hall.out j e
          · have : j = k := by omega
            subst this; exact h0⟩
        case measure => simp [intOf]; omega
      · have hf : allz zs = false := allz_false zs k (by rw [HZ.out]; exact hlt) h0
        have HF : Hid (allz zs = false) := hf
        clear hf
        have hne : (zs.getD k 0 != 0) = true := by simpa using h0
        generalize zs.getD k 0 = x at *
        go_wp2
        go_ret
        exact ⟨ret_bool HF.out.symm, rfl⟩
    · have hf : allz zs = true := allz_true zs (fun j hj => hall.out j (by have := HZ.out; omega))
      have HF : Hid (allz zs = true) := hf
      clear hf
      go_wp2
      go_ret
      exact ⟨ret_bool HF.out.symm, rfl⟩

end Go.Proofs.Ybulkbgxi
