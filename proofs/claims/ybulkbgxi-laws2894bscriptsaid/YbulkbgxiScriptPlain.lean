/-
  'LawS2894BScript': what holds between two removals (no Go in sight), and what lies in memory.
-/
import Derived.Test.YbulkbgxiWithout
import Derived.Deep.Draws
namespace Go.Proofs.Ybulkbgxi
open Go.RowKit

/-- m reads are left, c are gone: each of the first m places holds a read whose 'place' is that place and which is not removed. -/
def Ok (n m c : Nat) (P : Nat → Option Nat) (pl : Nat → Nat) (R : Nat → Bool) : Prop :=
  m + c = n ∧ ∀ j, j < m → ∃ i, i < n ∧ P j = some i ∧ pl i = j ∧ R i = false

theorem Ok.start (n : Nat) : Ok n n 0 some id (fun _ => false) := ⟨by omega, fun j hj => ⟨j, hj, rfl, rfl, rfl⟩⟩

/-- ONE REMOVAL: the read i at place k goes; the last one, l, takes its place. -/
theorem Ok.step {n m c k i l : Nat} {P : Nat → Option Nat} {pl : Nat → Nat} {R : Nat → Bool} (h : Ok n (m + 1) c P pl R) (hk : k ≤ m) (hi : P k = some i) (hl : P m = some l) :
    Ok n m (c + 1) (fun x => if x = m then none else if x = k then some l else P x) (fun y => if y = l then k else pl y) (fun x => if x = i then true else R x) := by
  obtain ⟨h1, h2⟩ := h
  refine ⟨by omega, fun j hj => ?_⟩
  obtain ⟨i', hi'n, hi', pi, Ri⟩ := h2 k (by omega)
  obtain rfl : i' = i := by rw [hi] at hi'; exact (Option.some.inj hi').symm
  obtain ⟨l', hl'n, hl', ql, Rl⟩ := h2 m (by omega)
  obtain rfl : l' = l := by rw [hl] at hl'; exact (Option.some.inj hl').symm
  by_cases e : j = k
  · subst e
    refine ⟨l', hl'n, by simp [show ¬ j = m by omega], by simp, ?_⟩
    have : ¬ l' = i' := fun e => by rw [e] at ql; omega
    simp [this, Rl]
  · obtain ⟨x, hxn, hx, px, Rx⟩ := h2 j (by omega)
    have n1 : ¬ x = l' := fun e => by rw [e] at px; omega
    have n2 : ¬ x = i' := fun e => by rw [e] at px; omega
    exact ⟨x, hxn, by simp [show ¬ j = m by omega, e, hx], by simp [n1, px], by simp [n2, Rx]⟩

/-- THE SCRIPT's MEMORY: the reads, and the row of the removed ones at block D. -/
def Sc (w wr : World) (B D n : Nat) (P : Nat → Option Nat) (pl : Nat → Nat) (R : Nat → Bool) : Prop :=
  Rds wr B n P pl ∧ wr.rowIs D 4 n (fun j => .bool (R j)) ∧ Below B w wr ∧ B + 2 + n ≤ D

theorem Rds.other {w : World} {B n : Nat} {P : Nat → Option Nat} {pl : Nat → Nat} (h : Rds w B n P pl) {D : Nat} (hD : B + 2 + n ≤ D) (i : Nat) (v : Value) : Rds (w.setCell ⟨D, i, none⟩ v) B n P pl := by
  obtain ⟨h1, h2, h3⟩ := h
  refine ⟨h1.setOther (by simp; omega) _, h2.setOther (by simp; omega) _, fun j hj => ?_⟩
  obtain ⟨f, hf, h14⟩ := h3 j hj
  exact ⟨f, hf.setOther (by simp; omega) _, h14⟩
theorem Rds.alloc {w : World} {B n : Nat} {P : Nat → Option Nat} {pl : Nat → Nat} (h : Rds w B n P pl) (o : Obj) : Rds (w.alloc o) B n P pl := by
  obtain ⟨h1, h2, h3⟩ := h
  refine ⟨h1.alloc _, h2.alloc _, fun j hj => ?_⟩
  obtain ⟨f, hf, h14⟩ := h3 j hj
  exact ⟨f, hf.alloc _, h14⟩

theorem Sc.mark {w wr : World} {B D n : Nat} {P : Nat → Option Nat} {pl : Nat → Nat} {R : Nat → Bool} (h : Sc w wr B D n P pl R) (i : Nat) :
    Sc w (wr.setCell ⟨D, i, none⟩ (.bool true)) B D n P pl (fun x => if x = i then true else R x) := by
  obtain ⟨h1, h2, h3, h4⟩ := h
  refine ⟨h1.other h4 i _, (h2.set i _).congr (fun j _ => by by_cases e : j = i <;> simp [e]), h3.setCell (p := ⟨D, i, none⟩) (show B ≤ D by omega) _, h4⟩

theorem Sc.congr {w wr : World} {B D n : Nat} {P : Nat → Option Nat} {pl : Nat → Nat} {R S : Nat → Bool} (h : Sc w wr B D n P pl R) (e : ∀ x, R x = S x) : Sc w wr B D n P pl S := by
  obtain ⟨h1, h2, h3, h4⟩ := h
  exact ⟨h1, h2.congr (fun j _ => by rw [e j]), h3, h4⟩

/-- Two reads held against one another: one and the same, or not. -/
theorem Rds.eql_ne {w : World} {B n : Nat} {P : Nat → Option Nat} {pl : Nat → Nat} (h : Rds w B n P pl) {i j : Nat} (hi : i < n) (hj : j < n) (hne : i ≠ j) :
    (binOp .eql 27 (rd B i) (rd B j)).run Yba.prog w = .ok (.bool false) w := by
  obtain ⟨f, hf, _⟩ := h.2.2 i hi
  obtain ⟨g, hg, _⟩ := h.2.2 j hj
  exact eql_other (a := ⟨B + 2 + i, 0, none⟩) (b := ⟨B + 2 + j, 0, none⟩) (fun e => hne (by have := congrArg Addr.block e; simp at this; exact this)) hf hg

/-- The removed ones, and their number, as the search for read i has come to place j. -/
def markTo (R : Nat → Bool) (i j : Nat) : Nat → Bool := fun x => if x = i ∧ i < j then true else R x
def cntTo (c i j : Nat) : Nat := if i < j then c + 1 else c
theorem markTo_zero (R : Nat → Bool) (i x : Nat) : R x = markTo R i 0 x := by simp [markTo]
theorem markTo_at (R : Nat → Bool) (i : Nat) : markTo R i i i = R i := by simp [markTo]
theorem markTo_hit (R : Nat → Bool) (i x : Nat) : (if x = i then true else markTo R i i x) = markTo R i (i + 1) x := by
  by_cases e : x = i <;> simp [markTo, e]
theorem markTo_miss (R : Nat → Bool) (i j x : Nat) (h : i ≠ j) : markTo R i j x = markTo R i (j + 1) x := by
  by_cases e : x = i
  · subst e
    by_cases h2 : x < j
    · simp [markTo, h2, show x < j + 1 by omega]
    · simp [markTo, h2, show ¬ x < j + 1 by omega]
  · simp [markTo, e]
theorem markTo_end (R : Nat → Bool) (i n x : Nat) (h : i < n) : markTo R i n x = (if x = i then true else R x) := by
  by_cases e : x = i <;> simp [markTo, e, h]
theorem cntTo_hit (c i : Nat) : cntTo c i (i + 1) = cntTo c i i + 1 := by simp [cntTo]
theorem cntTo_miss (c i j : Nat) (h : i ≠ j) : cntTo c i (j + 1) = cntTo c i j := by
  unfold cntTo; by_cases h2 : i < j
  · simp [h2, show i < j + 1 by omega]
  · simp [h2, show ¬ i < j + 1 by omega]
theorem cntTo_end (c i n : Nat) (h : i < n) : cntTo c i n = c + 1 := by simp [cntTo, h]
theorem cntTo_le (c i j : Nat) : cntTo c i j ≤ c + 1 := by unfold cntTo; split <;> omega

/-- THE LAST SEARCH's MEMORY: the same, and the row of the seen ones at block E. -/
def Fin (w wr : World) (B D E n : Nat) (P : Nat → Option Nat) (pl : Nat → Nat) (R S : Nat → Bool) : Prop :=
  Sc w wr B D n P pl R ∧ wr.rowIs E 4 n (fun j => .bool (S j)) ∧ D < E
theorem Fin.start {w wr : World} {B D n : Nat} {P : Nat → Option Nat} {pl : Nat → Nat} {R : Nat → Bool} (h : Sc w wr B D n P pl R) (hB : B ≤ wr.heap.size) :
    Fin w (wr.alloc (.cells (madeCells #[.bool false] n) 4)) B D wr.heap.size n P pl R (fun _ => false) := by
  obtain ⟨h1, h2, h3, h4⟩ := h
  exact ⟨⟨h1.alloc _, h2.alloc _, h3.alloc hB _, h4⟩, World.rowIs_made wr (.bool false) n 4, h2.lt⟩
theorem Fin.mark {w wr : World} {B D E n : Nat} {P : Nat → Option Nat} {pl : Nat → Nat} {R S : Nat → Bool} (h : Fin w wr B D E n P pl R S) (i : Nat) :
    Fin w (wr.setCell ⟨E, i, none⟩ (.bool true)) B D E n P pl R (fun x => if x = i then true else S x) := by
  obtain ⟨⟨h1, h2, h3, h4⟩, h5, h6⟩ := h
  exact ⟨⟨h1.other (by omega) i _, h2.setOther (by simp; omega) _, h3.setCell (p := ⟨E, i, none⟩) (show B ≤ E by omega) _, h4⟩, (h5.set i _).congr (fun j _ => by by_cases e : j = i <;> simp [e]), h6⟩
theorem Fin.congr {w wr : World} {B D E n : Nat} {P : Nat → Option Nat} {pl : Nat → Nat} {R S S' : Nat → Bool} (h : Fin w wr B D E n P pl R S) (e : ∀ x, S x = S' x) : Fin w wr B D E n P pl R S' := by
  obtain ⟨h1, h2, h3⟩ := h
  exact ⟨h1, h2.congr (fun j _ => by rw [e j]), h3⟩
theorem Fin.drewN {w wr : World} {B D E n : Nat} {P : Nat → Option Nat} {pl : Nat → Nat} {R S : Nat → Bool} (h : Fin w wr B D E n P pl R S) (q : Nat) : Fin w (wr.drewN q) B D E n P pl R S := by
  obtain ⟨⟨⟨a1, a2, a3⟩, h2, h3, h4⟩, h5, h6⟩ := h
  exact ⟨⟨⟨a1, a2, a3⟩, h2, ⟨h3.os, h3.tape, h3.output, h3.size, h3.block⟩, h4⟩, h5, h6⟩

/-- What has been seen up to place i stands at a place below i. -/
def SeenTo (P : Nat → Option Nat) (S : Nat → Bool) (i : Nat) : Prop := ∀ x, S x = true → ∃ j, j < i ∧ P j = some x
theorem SeenTo.not {P : Nat → Option Nat} {S : Nat → Bool} {pl : Nat → Nat} {R : Nat → Bool} {n m c i x : Nat} (h : SeenTo P S i) (hO : Ok n m c P pl R) (hi : i < m) (hx : P i = some x) : S x = false := by
  by_cases e : S x = true
  · obtain ⟨j, hj, hjx⟩ := h x e
    obtain ⟨y, _, h1, h2, _⟩ := hO.2 i hi
    obtain ⟨z, _, h3, h4, _⟩ := hO.2 j (by omega)
    rw [hx] at h1; rw [hjx] at h3
    obtain rfl := Option.some.inj h1
    obtain rfl := Option.some.inj h3
    omega
  · simpa using e
theorem SeenTo.step {P : Nat → Option Nat} {S : Nat → Bool} {i x : Nat} (h : SeenTo P S i) (hx : P i = some x) : SeenTo P (fun y => if y = x then true else S y) (i + 1) := by
  intro y hy
  by_cases e : y = x
  · subst e; exact ⟨i, by omega, hx⟩
  · obtain ⟨j, hj, hjy⟩ := h y (by simpa [e] using hy)
    exact ⟨j, by omega, hjy⟩

end Go.Proofs.Ybulkbgxi
