/-
  'without' BY A CONTRACT.
-/
import Derived.Test.YbulkbgxiReads
import Derived.Lib.Builder
namespace Go.Proofs.Ybulkbgxi
open Go.RowKit

/-- THE READS IN MEMORY: the row at B (place j holds the read 'P j', or nil), the row at B + 1 (place j: read j), and each read j in its own block, with its field 'place'. -/
def Rds (w : World) (B n : Nat) (P : Nat → Option Nat) (pl : Nat → Nat) : Prop :=
  w.rowIs B 27 n (fun j => .pointer ((P j).map fun i => ⟨B + 2 + i, 0, none⟩)) ∧ w.rowIs (B + 1) 27 n (fun j => rd B j) ∧
    ∀ j, j < n → ∃ f, w.rowIs (B + 2 + j) 42 18 f ∧ f 14 = .int .i64 (pl j)

theorem info42 : (Yba.prog.info? 42).map (fun i => i.size) = some 18 := by kernel_rfl
theorem neq_same (a : Addr) (w : World) : (binOp .neq 27 (.pointer (some a)) (.pointer (some a))).run Yba.prog w = .ok (.bool false) w := by
  obtain ⟨j, hj, _⟩ := Option.map_eq_some_iff.1 info42
  exact Lib.run_neq_ptr_same w a Yba.underlying27 hj
theorem eql_same (a : Addr) (w : World) : (binOp .eql 27 (.pointer (some a)) (.pointer (some a))).run Yba.prog w = .ok (.bool true) w := by
  obtain ⟨j, hj, _⟩ := Option.map_eq_some_iff.1 info42
  exact run_eql_ptr_same w a Yba.underlying27 hj
theorem eql_other {a b : Addr} {w : World} {n m : Nat} {f g : Nat → Value} (hne : a ≠ b) (ha : w.rowIs a.block 42 n f) (hb : w.rowIs b.block 42 m g) :
    (binOp .eql 27 (.pointer (some a)) (.pointer (some b))).run Yba.prog w = .ok (.bool false) w := by
  obtain ⟨j, hj, h18⟩ := Option.map_eq_some_iff.1 info42
  obtain ⟨c, h1, _⟩ := ha
  obtain ⟨d, h2, _⟩ := hb
  exact run_eql_ptr_other w Yba.underlying27 hj (by rw [h18]; decide) hne h1 h2

theorem Blt.rds {w : World} {B n : Nat} (h : Blt w B n n) : Rds w B n some id := by
  obtain ⟨_, h1, h2, h3⟩ := h
  exact ⟨h1.congr (fun i hi => by simp [hi]), h2.congr (fun i hi => by simp [hi]), h3⟩

theorem Rds.frozen {w : World} {B n : Nat} {P : Nat → Option Nat} {pl : Nat → Nat} (h : Rds w B n P pl) (j : Nat) : w.frozen? ⟨B, j, none⟩ = false := h.1.frozen j
theorem Rds.frozenRd {w : World} {B n : Nat} {P : Nat → Option Nat} {pl : Nat → Nat} (h : Rds w B n P pl) (i j : Nat) (hi : i < n) : w.frozen? ⟨B + 2 + i, j, none⟩ = false := by
  obtain ⟨f, hf, _⟩ := h.2.2 i hi
  exact hf.frozen j
theorem Rds.at {w : World} {B n : Nat} {P : Nat → Option Nat} {pl : Nat → Nat} (h : Rds w B n P pl) (j : Nat) (hj : j < n) : w.cell? ⟨B, j, none⟩ = some (.pointer ((P j).map fun i => ⟨B + 2 + i, 0, none⟩)) := h.1.cell hj
theorem Rds.orig {w : World} {B n : Nat} {P : Nat → Option Nat} {pl : Nat → Nat} (h : Rds w B n P pl) (j : Nat) (hj : j < n) : w.cell? ⟨B + 1, j, none⟩ = some (rd B j) := h.2.1.cell hj
theorem Rds.place {w : World} {B n : Nat} {P : Nat → Option Nat} {pl : Nat → Nat} (h : Rds w B n P pl) (j : Nat) (hj : j < n) : w.cell? ⟨B + 2 + j, 14, none⟩ = some (.int .i64 (pl j)) := by
  obtain ⟨f, hf, h14⟩ := h.2.2 j hj
  rw [hf.cell (by omega), h14]

/-- A STORE INTO THE ROW AT B. -/
theorem Rds.set {w : World} {B n : Nat} {P : Nat → Option Nat} {pl : Nat → Nat} (h : Rds w B n P pl) (k : Nat) (x : Option Nat) :
    Rds (w.setCell ⟨B, k, none⟩ (.pointer (x.map fun i => ⟨B + 2 + i, 0, none⟩))) B n (fun j => if j = k then x else P j) pl := by
  obtain ⟨h1, h2, h3⟩ := h
  refine ⟨(h1.set k _).congr (fun i _ => by by_cases e : i = k <;> simp [e]), h2.setOther (by simp) _, fun j hj => ?_⟩
  obtain ⟨f, hf, hf14⟩ := h3 j hj
  exact ⟨f, hf.setOther (by simp; omega) _, hf14⟩

/-- A STORE INTO A READ's 'place'. -/
theorem Rds.setPlace {w : World} {B n : Nat} {P : Nat → Option Nat} {pl : Nat → Nat} (h : Rds w B n P pl) (l k : Nat) :
    Rds (w.setCell ⟨B + 2 + l, 14, none⟩ (.int .i64 k)) B n P (fun j => if j = l then k else pl j) := by
  obtain ⟨h1, h2, h3⟩ := h
  refine ⟨h1.setOther (by simp; omega) _, h2.setOther (by simp; omega) _, fun j hj => ?_⟩
  obtain ⟨f, hf, hf14⟩ := h3 j hj
  by_cases e : j = l
  · subst e
    exact ⟨_, hf.set 14 _, by simp⟩
  · exact ⟨f, hf.setOther (by simp; omega) _, by simp [e, hf14]⟩

theorem without_below (w : World) (B k l m : Nat) (a b c : Value) : Below B w (((w.setCell ⟨B, k, none⟩ a).setCell ⟨B + 2 + l, 14, none⟩ b).setCell ⟨B, m, none⟩ c).drew := by
  have h1 : Below B w (w.setCell ⟨B, k, none⟩ a) := (Below.refl B w).setCell (p := ⟨B, k, none⟩) (Nat.le_refl B) _
  have h2 : Below B w ((w.setCell ⟨B, k, none⟩ a).setCell ⟨B + 2 + l, 14, none⟩ b) := h1.setCell (show B ≤ B + 2 + l by omega) _
  exact (h2.setCell (p := ⟨B, m, none⟩) (Nat.le_refl B) _).drew

theorem without_rds {w : World} {B n : Nat} {P : Nat → Option Nat} {pl : Nat → Nat} (h : Rds w B n P pl) (k l m : Nat) :
    Rds (((w.setCell ⟨B, k, none⟩ (.pointer (some ⟨B + 2 + l, 0, none⟩))).setCell ⟨B + 2 + l, 14, none⟩ (.int .i64 k)).setCell ⟨B, m, none⟩ (.pointer none)).drew B n
      (fun x => if x = m then none else if x = k then some l else P x) (fun y => if y = l then k else pl y) :=
  ((h.set k (some l)).setPlace l k).set m none

theorem without_other {w : World} {B n k l m D N : Nat} {t : TypeId} {f : Nat → Value} {a b c : Value} (hD : B + 2 + n ≤ D) (hl : l < n) (h : w.rowIs D t N f) :
    (((w.setCell ⟨B, k, none⟩ a).setCell ⟨B + 2 + l, 14, none⟩ b).setCell ⟨B, m, none⟩ c).drew.rowIs D t N f :=
  ((h.setOther (a := ⟨B, k, none⟩) (by simp; omega) a).setOther (a := ⟨B + 2 + l, 14, none⟩) (by simp; omega) b).setOther (a := ⟨B, m, none⟩) (by simp; omega) c

set_option maxRecDepth 100000 in
set_option maxHeartbeats 400000 in
theorem without_full (B n m i k l : Nat) (P : Nat → Option Nat) (pl : Nat → Nat) (w : World) (hR : Rds w B n P pl) (hmn : m < n) (hn : n ≤ 300) (hi : i < n) (hl : l < n) (hPl : P m = some l) (hpi : pl i = k) (hk : k ≤ m) :
    Calls Yba.prog 8 #[.slice (some ⟨B, 0, none⟩) (m + 1) n, rd B i] w fun e w' => e = .returned (.slice (some ⟨B, 0, none⟩) m n) ∧
      Rds w' B n (fun x => if x = m then none else if x = k then some l else P x) (fun y => if y = l then k else pl y) ∧ Below B w w' ∧ ∀ D t N f, B + 2 + n ≤ D → w.rowIs D t N f → w'.rowIs D t N f := by
  have hc1 : w.cell? ⟨B, m, none⟩ = some (rd B l) := by rw [hR.at m hmn, hPl]; rfl
  have hc2 : w.cell? ⟨B + 2 + i, 14, none⟩ = some (.int .i64 k) := by rw [hR.place i hi, hpi]
  have hf0 : w.frozen? ⟨B, k, none⟩ = false := hR.frozen _
  have hf1 : w.frozen? ⟨B + 2 + l, 14, none⟩ = false := hR.frozenRd _ _ hl
  have hf2 : w.frozen? ⟨B, m, none⟩ = false := hR.frozen _
  obtain ⟨v1, hc3⟩ : ∃ v, w.cell? ⟨B, k, none⟩ = some v := ⟨_, hR.at k (by omega)⟩
  obtain ⟨v2, hc4⟩ : ∃ v, w.cell? ⟨B + 2 + l, 14, none⟩ = some v := ⟨_, hR.place l hl⟩
  obtain ⟨v3, hc5⟩ : ∃ v, (w.setCell ⟨B, k, none⟩ (.pointer (some ⟨B + 2 + l, 0, none⟩))).cell? ⟨B, m, none⟩ = some v := cell?_setCell_some hc1
  have HR : Hid (Rds w B n P pl) := hR
  clear hR hPl hpi
  go_enter Yba.func8, Yba.ntmps8
  go_wp2
  go_region
  go_wp2
  go_ret
  exact ⟨rfl, without_rds HR.out k l m, without_below w B k l m _ _ _, fun D t N f hD h => without_other hD hl h⟩

theorem without_walk (B n m i k l : Nat) (P : Nat → Option Nat) (pl : Nat → Nat) (w : World) (hR : Rds w B n P pl) (hmn : m < n) (hn : n ≤ 300) (hi : i < n) (hl : l < n) (hPl : P m = some l) (hpi : pl i = k) (hk : k ≤ m) :
    Calls Yba.prog 8 #[.slice (some ⟨B, 0, none⟩) (m + 1) n, rd B i] w fun e w' => e = .returned (.slice (some ⟨B, 0, none⟩) m n) ∧
      Rds w' B n (fun x => if x = m then none else if x = k then some l else P x) (fun y => if y = l then k else pl y) ∧ Below B w w' :=
  (without_full B n m i k l P pl w hR hmn hn hi hl hPl hpi hk).mono fun _ _ ⟨h1, h2, h3, _⟩ => ⟨h1, h2, h3⟩

end Go.Proofs.Ybulkbgxi
