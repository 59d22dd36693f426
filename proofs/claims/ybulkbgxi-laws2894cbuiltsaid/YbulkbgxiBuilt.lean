/-
  'wal.LawS2894CBuilt': THE WALK.
-/
import Derived.Test.YbulkbgxiZero
import Derived.Outline
import Derived.WalkSpells
namespace Go.Proofs.Ybulkbgxi
open Go.RowKit

theorem info5 : (Yba.prog.info? 5).map (fun i => (i.zero, i.size, i.bytes)) = some (some (.int .u8 0), 1, 1) := by kernel_rfl

/-- 'zero' over a row that the call itself made. -/
theorem zero_owned (B g n cap : Nat) (zs : List Int) (w : World) (hz : zs.length = n) (hbig : n ≤ 9223372036854775807)
    (hown : w.ownsRow B 5 1 (.slice (some ⟨g, 0, none⟩) n cap) n (zs.map (Value.int .u8))) :
    Calls Yba.prog 9 #[.slice (some ⟨g, 0, none⟩) n cap] w fun e w' => e = .returned (.bool (allz zs)) ∧ w' = w := by
  refine zero_any g 0 n cap zs w hz hbig (fun j hj => ?_)
  rw [Nat.zero_add, hown.cellAt j (by omega)]
  simp [List.getD, hz, hj]

theorem made_bytes (n : Nat) : (madeCells (Value.int IntKind.u8 0).cells (n * 1)).toList = (List.replicate n (0 : Int)).map (Value.int .u8) := by
  rw [Nat.mul_one]
  show (madeCells #[Value.int IntKind.u8 0] n).toList = _
  rw [toList_madeCells_one]
  simp

theorem allz_replicate (n : Nat) : allz (List.replicate n 0) = true :=
  allz_true _ (fun j hj => by simp at hj; simp [List.getD, hj])

theorem allz_set (n p : Nat) (v : Int) (hp : p < n) (hv : v ≠ 0) : allz ((List.replicate n 0).set p v) = false :=
  allz_false _ p (by simpa using hp) (by simp [List.getD, hp, hv])

set_option maxRecDepth 100000 in
set_option maxHeartbeats 400000 in
theorem built_walk (n0 p0 v0 : Nat) (w0 : n0 < 65536) (w1 : p0 < 65536) (w2 : v0 < 256) (w : World) :
    Calls Yba.prog 6 #[.int .u16 n0, .int .u16 p0, .int .u8 v0] w fun e w' => e = .returned (.bool true) ∧ Below w.heap.size w w' := by
  obtain ⟨i0, hi, hz0, hz1, hz2⟩ := info_parts info5
  go_enter Yba.func6, Yba.ntmps6
  go_wp2_with (first | (at_make; go_must (refine wpList_make_full _ rfl (.tmp 14) (.tmp 14) 47 rfl w.heap.size 5 i0 (.int .u8 0) 1 Yba.underlying47 hi hz0 hz1 _ _ _ _ (n0 % 300) rfl rfl (by omega) (by omega) (by rw [hz2]; omega) (by unfold maxLen; omega) (Nat.le_refl _) ?_); intro w1 hown hgrow))
  rw [made_bytes] at hown
  have HB : Hid (Below w.heap.size w w1) := (Below.refl _ _).grown hgrow (Nat.le_refl _) (by intro k hk; cases hk)
  refine (zero_owned _ _ _ _ _ _ (by simp) (by omega) hown).mono ?_
  rintro e w' ⟨rfl, rfl⟩
  rw [allz_replicate]
  by_cases hm : n0 % 300 = 0
  · have hm' : (n0 : Int) % 300 = 0 := by omega
    clear hown hgrow hm
    go_wp2_with (first | (go_at_call 9; go_must (refine (zero_empty _ _ _).mono ?_); rintro e w' ⟨rfl, rfl⟩))
    go_ret
    exact ⟨rfl, HB.out⟩
  · have hm' : ((n0 : Int) % 300 == 0) = false := by simp; omega
    have hp : p0 % (n0 % 300) < n0 % 300 := Nat.mod_lt _ (by omega)
    have hb1 : (0 : Int) ≤ (p0 : Int) % ((n0 : Int) % 300) := Int.emod_nonneg _ (by omega)
    have hb2 : (p0 : Int) % ((n0 : Int) % 300) < (n0 : Int) % 300 := Int.emod_lt_of_pos _ (by omega)
    have hcell : w'.cell? ⟨w.heap.size, p0 % (n0 % 300), none⟩ = some (.int .u8 0) := by
      rw [hown.cellAt _ (by omega)]; simp [hp]
    have hfr : w'.frozen? ⟨w.heap.size, p0 % (n0 % 300), none⟩ = false := hown.frozenAt _
    have HO := fun (v : Int) => hown.stored (p0 % (n0 % 300)) (.int .u8 v)
    clear hown hgrow
    by_cases hv : v0 = 0
    · subst hv
      have HO1 := HO 1
      rw [← List.map_set] at HO1
      have H1 : Hid _ := HO1
      clear HO HO1
      go_wp2_with fail
      refine (zero_owned _ _ _ _ _ _ (by simp) (by omega) H1.out.1).mono ?_
      rintro e w1 ⟨rfl, rfl⟩
      rw [allz_set _ _ _ hp (by decide)]
      go_wp2
      go_ret
      exact ⟨rfl, HB.out.setCell (Nat.le_refl _) _⟩
    · have hv' : ((v0 : Int) == 0) = false := by simp; omega
      have hv2 : (v0 : Int) ≠ 0 := by omega
      have HO1 := HO v0
      rw [← List.map_set] at HO1
      have H1 : Hid _ := HO1
      clear HO HO1
      go_wp2_with fail
      refine (zero_owned _ _ _ _ _ _ (by simp) (by omega) H1.out.1).mono ?_
      rintro e w1 ⟨rfl, rfl⟩
      rw [allz_set _ _ _ hp hv2]
      go_wp2
      go_ret
      exact ⟨rfl, HB.out.setCell (Nat.le_refl _) _⟩

end Go.Proofs.Ybulkbgxi
