/-
  CScript: POINTERS COMPARED.
-/
import Derived.Test.YbulkbgzmFmtCsC
import Derived.LaidEqlPtr
namespace Go.Proofs.YbulkbgzmFmt
open Go.RowKit Go.Stop
set_option linter.unusedVariables false

theorem info91 : (Ybaf.prog.info? 91).map (·.size) = some 3 := by kernel_rfl
/-- Two nodes' pointers. -/
theorem ptr_other {w : World} {b1 b2 : Nat} {k1 v1 c1 k2 v2 c2 : Value} (h1 : NodeAt w b1 k1 v1 c1) (h2 : NodeAt w b2 k2 v2 c2) (hne : b1 ≠ b2) : (binOp .eql 57 (.pointer (some ⟨b1, 0, none⟩)) (.pointer (some ⟨b2, 0, none⟩))).run Ybaf.prog w = .ok (.bool false) w := by
  have hi := info91
  cases hj : Ybaf.prog.info? 91 with
  | none => rw [hj] at hi; cases hi
  | some j =>
    rw [hj] at hi
    have hs : j.size = 3 := by simpa using hi
    exact run_eql_ptr_other w Ybaf.underlying57 hj (by omega) (fun e => hne (congrArg Addr.block e)) h1 h2
theorem ptr_same (w : World) (b : Nat) : (binOp .eql 57 (.pointer (some ⟨b, 0, none⟩)) (.pointer (some ⟨b, 0, none⟩))).run Ybaf.prog w = .ok (.bool true) w := by
  have hi := info91
  cases hj : Ybaf.prog.info? 91 with
  | none => rw [hj] at hi; cases hi
  | some j => exact run_eql_ptr_same w ⟨b, 0, none⟩ Ybaf.underlying57 hj
theorem ptr_new {w w1 : World} {bx bc gc n : Nat} {cur : List Value} (hx : ∃ k v c, NodeAt w bx k v c) (h : Bld w w1 bc gc n cur) : (binOp .eql 57 (.pointer (some ⟨bc, 0, none⟩)) (.pointer (some ⟨bx, 0, none⟩))).run Ybaf.prog w1 = .ok (.bool false) w1 := by
  obtain ⟨k, v, c, hx⟩ := hx
  have h1 := lt_of_block hx
  exact ptr_other h.1.1 (hx.below h.2.2.2) (by have := h.2.1; omega)

theorem pair_made {w w1 : World} {bc gc n : Nat} {cur : List Value} (h : Bld w w1 bc gc n cur) (p0 p1 : Value) :
    (w1.alloc (.cells #[p0, p1] 106)).drew.heap[w1.heap.size]? = some (.cells #[p0, p1] 106 (0, 0)) ∧ Bld w (w1.alloc (.cells #[p0, p1] 106)).drew bc gc n cur ∧ bc ≠ w1.heap.size ∧ gc ≠ w1.heap.size ∧ w.heap.size ≤ w1.heap.size := by
  have l1 := lt_of_block h.1.1
  have l2 := lt_of_block h.1.2.1
  exact ⟨(MapKept.heap_alloc w1 _).1, h.below ((Below.refl _ _).alloc (Nat.le_refl _) _).drew, by omega, by omega, h.2.2.2.size⟩
theorem pair_cells {w : World} {pb : Nat} {p0 p1 : Value} {t : TypeId} (h : w.heap[pb]? = some (.cells #[p0, p1] t (0, 0))) :
    w.cell? ⟨pb, 0, none⟩ = some p0 ∧ w.cell? ⟨pb, 1, none⟩ = some p1 ∧ w.frozen? ⟨pb, 0, none⟩ = false ∧ w.frozen? ⟨pb, 1, none⟩ = false := by
  simp [World.cell?, World.frozen?, h]
theorem pair_set0 {w : World} {pb : Nat} {p0 p1 : Value} {t : TypeId} (h : w.heap[pb]? = some (.cells #[p0, p1] t (0, 0))) (x : Value) : (w.setCell ⟨pb, 0, none⟩ x).heap[pb]? = some (.cells #[x, p1] t (0, 0)) := by
  rw [heap_setCell_same w pb 0 _ t x h]; rfl
theorem pair_set1 {w : World} {pb : Nat} {p0 p1 : Value} {t : TypeId} (h : w.heap[pb]? = some (.cells #[p0, p1] t (0, 0))) (x : Value) : (w.setCell ⟨pb, 1, none⟩ x).heap[pb]? = some (.cells #[p0, x] t (0, 0)) := by
  rw [heap_setCell_same w pb 1 _ t x h]; rfl
theorem NewLeaf.below {w w' : World} {b g n : Nat} {cur : List Value} (h : NewLeaf w b g n cur) (hb : Below w.heap.size w w') : NewLeaf w' b g n cur :=
  ⟨h.1.below hb, (hb.block g (lt_of_block h.2.1)).trans h.2.1, h.2.2.1, h.2.2.2⟩
theorem kd_rows (Z ka kb : List Value) (i r : Nat) (hZ : Z.length = i + r) (l1 : ka.length = i) (l2 : kb.length = r) :
    ∃ R1, (splice Z 0 ka = R1 ∧ R1.length = i + r) ∧ splice R1 i kb = ka ++ kb := by
  obtain ⟨za, zb, rfl, h1⟩ : ∃ a b, Z = a ++ b ∧ a.length = i := ⟨Z.take i, Z.drop i, by simp, by simp; omega⟩
  simp only [List.length_append] at hZ
  refine ⟨ka ++ zb, ⟨?_, ?_⟩, ?_⟩
  · simpa using splice_mid [] za zb ka 0 rfl (by omega)
  · simp; omega
  · simpa using splice_mid ka zb [] kb i l1 (by omega)

end Go.Proofs.YbulkbgzmFmt
