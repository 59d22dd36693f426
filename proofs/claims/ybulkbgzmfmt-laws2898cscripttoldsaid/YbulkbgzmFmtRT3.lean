/-
  'LawS2898ARoundTrip': what lies in memory behind the decoding.
-/
import Derived.Test.YbulkbgzmFmtRT1
namespace Go.Proofs.YbulkbgzmFmt
open Go.RowKit
set_option linter.unusedVariables false

/-- The copies, and what was decoded: all of it apart from block g, in which the encoded bytes lie. -/
def Fin (w X : World) (B n : Nat) (kv vv : Nat → Value) (ks vs : Nat → List UInt8) (H : Nat) (gv : Value) (os : List Wr) (g : Nat) : Prop :=
  X.rowIs B 22 n kv ∧ X.rowIs (B + 1) 22 n vv ∧ (∀ j, j < n → Owns X B (kv j) (ks j) ∧ (kv j).ownBlock ≠ some g) ∧ (∀ j, j < n → Owns X B (vv j) (vs j) ∧ (vv j).ownBlock ≠ some g) ∧
    OpsAt X H gv os ∧ g < H ∧ B ≤ g ∧ B ≠ g ∧ B + 1 ≠ g ∧ Below B w X

theorem ownsRow_setOther {w : World} {B e size n g o : Nat} {v x : Value} {xs : List Value} (h : w.ownsRow B e size v n xs) (hne : v.ownBlock ≠ some g) : (w.setCell ⟨g, o, none⟩ x).ownsRow B e size v n xs := by
  obtain ⟨h1, h2⟩ := h
  refine ⟨h1, ?_⟩
  rcases h2 with h2 | ⟨g', cap, cur, hv, hg, hh, r⟩
  · exact .inl h2
  · refine .inr ⟨g', cap, cur, hv, hg, ?_, r⟩
    rw [Below.heap_setCell _ _ _ _ (fun e => ?_)]
    · exact hh
    · have e' : g' = g := e
      exact hne (by rw [hv, e']; rfl)
theorem ne_of_base {w : World} {B e size n g : Nat} {v : Value} {xs : List Value} (h : w.ownsRow B e size v n xs) (hg : g < B) : v.ownBlock ≠ some g := fun e => by
  have := h.lt g e
  omega
theorem OpsAt.setLow {w : World} {H g o : Nat} {v x : Value} {os : List Wr} (h : OpsAt w H v os) (hg : g < H) : OpsAt (w.setCell ⟨g, o, none⟩ x) H v os := by
  obtain ⟨cs, h1, h2⟩ := h
  exact ⟨cs, ownsRow_setOther h1 (ne_of_base h1 hg), h2.map fun v l hv => ownsRow_setOther hv (ne_of_base hv hg)⟩

theorem Fin.setCell {w X : World} {B n H g o : Nat} {kv vv : Nat → Value} {ks vs : Nat → List UInt8} {gv x : Value} {os : List Wr} (h : Fin w X B n kv vv ks vs H gv os g) : Fin w (X.setCell ⟨g, o, none⟩ x) B n kv vv ks vs H gv os g := by
  obtain ⟨h1, h2, h3, h4, h5, h6, h7, h8, h9, h10⟩ := h
  exact ⟨h1.setOther (by simpa using h8) _, h2.setOther (by simpa using h9) _, fun j hj => ⟨ownsRow_setOther (h3 j hj).1 (h3 j hj).2, (h3 j hj).2⟩, fun j hj => ⟨ownsRow_setOther (h4 j hj).1 (h4 j hj).2, (h4 j hj).2⟩,
    h5.setLow h6, h6, h7, h8, h9, h10.setCell (p := ⟨g, o, none⟩) h7 _⟩
theorem Fin.drewN {w X : World} {B n H g : Nat} {kv vv : Nat → Value} {ks vs : Nat → List UInt8} {gv : Value} {os : List Wr} (h : Fin w X B n kv vv ks vs H gv os g) (k : Nat) : Fin w (X.drewN k) B n kv vv ks vs H gv os g := by
  obtain ⟨h1, h2, h3, h4, h5, h6, h7, h8, h9, h10⟩ := h
  exact ⟨h1, h2, h3, h4, h5.below ⟨rfl, rfl, rfl, Nat.le_refl _, fun _ _ => rfl⟩, h6, h7, h8, h9, h10.trans ⟨rfl, rfl, rfl, Nat.le_refl _, fun _ _ => rfl⟩⟩

/-- Behind the call that decodes. -/
theorem St.fin {w wr X : World} {B n : Nat} {ks vs : Nat → List UInt8} {v gv : Value} {enc : List UInt8} {os : List Wr} (h : St w wr B n n n ks vs v enc) (hb : Below wr.heap.size wr X) (hB : B ≤ wr.heap.size) (ho : OpsAt X wr.heap.size gv os) (he : enc ≠ []) :
    ∃ kv vv g c cur, v = .slice (some ⟨g, 0, none⟩) enc.length c ∧ enc.length ≤ c ∧ X.heap[g]? = some (.cells cur 5 (0, 0)) ∧ enc.length ≤ cur.size ∧ Fin w X B n kv vv ks vs wr.heap.size gv os g := by
  have hX := h.below hb hB
  obtain ⟨kv, vv, h1, h2, h3, h4, h5, h6⟩ := hX
  have hlt : ∀ k, v.ownBlock = some k → k < wr.heap.size := fun k hk => by
    obtain ⟨_, _, _, _, _, _, h5', _⟩ := h
    exact (World.ownsRow.lt h5' k hk).2
  rcases id h5.2 with ⟨rfl, hn⟩ | ⟨g, cap, cur, rfl, hg, hh, r⟩
  · exact absurd (List.eq_nil_of_length_eq_zero hn) he
  · have hr := r
    refine ⟨kv, vv, g, cap, cur, rfl, ?_, hh, ?_, h1, h2, fun j hj => ⟨(h3 j hj).1, ?_⟩, fun j hj => ⟨(h4 j hj).1, ?_⟩, ho, hlt g rfl, hg, ?_, ?_, h6⟩
    · exact r.1
    · have := r.2.2.1; have := r.1; omega
    · rcases (h3 j hj).2 with e | e
      · rw [e]; simp
      · exact e
    · rcases (h4 j hj).2 with e | e
      · rw [e]; simp
      · exact e
    · rintro rfl; exact h5.ne_row h1 rfl
    · rintro rfl; exact h5.ne_row h2 rfl

/-- Round i of the comparison: what it reads. -/
theorem Fin.at {w X : World} {B n H g : Nat} {kv vv : Nat → Value} {ks vs : Nat → List UInt8} {gv : Value} {os : List Wr} (h : Fin w X B n kv vv ks vs H gv os g) (hn : os.length = n) (i : Nat) (hi : i < n) :
    ∃ gg cap a1 c1 a2 c2 a3 c3 v4, gv = .slice (some ⟨gg, 0, none⟩) n cap ∧ X.cell? ⟨B, i, none⟩ = some (.slice a1 (ks i).length c1) ∧ BytesAt X a1 (ks i).length (ks i) ∧ X.cell? ⟨B + 1, i, none⟩ = some (.slice a2 (vs i).length c2) ∧ BytesAt X a2 (vs i).length (vs i) ∧
      X.cell? ⟨gg, i * 3, none⟩ = some (.slice a3 os[i].key.length c3) ∧ BytesAt X a3 os[i].key.length os[i].key ∧ X.cell? ⟨gg, i * 3 + 1, none⟩ = some v4 ∧ X.cell? ⟨gg, i * 3 + 2, none⟩ = some (.bool os[i].val.isNone) ∧
      (os[i].val = none → v4 = .slice none 0 0) ∧ ∀ x, os[i].val = some x → ∃ a4 c4, v4 = .slice a4 x.length c4 ∧ BytesAt X a4 x.length x := by
  obtain ⟨h1, h2, h3, h4, ⟨cs, ho, hc⟩, _⟩ := h
  obtain ⟨a1, c1, e1, b1⟩ := ownsRow_bytes (h3 i hi).1
  obtain ⟨a2, c2, e2, b2⟩ := ownsRow_bytes (h4 i hi).1
  obtain ⟨k, v4, dv, g1, g2, g3, hk, rfl, hv1, hv2⟩ := hc.at i (by omega)
  obtain ⟨a3, c3, rfl, b3⟩ := ownsRow_bytes hk
  rcases id ho.2 with ⟨rfl, h0⟩ | ⟨gg, cap, cur, rfl, _⟩
  · omega
  · have hcell : ∀ j y, cs[j]? = some y → X.cell? ⟨gg, j, none⟩ = some y := fun j y hj => by
      have hl : j < cs.length := by
        rcases Nat.lt_or_ge j cs.length with h | h
        · exact h
        · rw [List.getElem?_eq_none h] at hj; cases hj
      rw [ho.cellAt j (by have := ho.1; omega)]
      exact hj
    refine ⟨gg, cap, a1, c1, a2, c2, a3, c3, v4, by rw [hn], e1 ▸ h1.cell hi, b1, e2 ▸ h2.cell hi, b2, ?_, b3, ?_, ?_, hv1, fun x hx => ?_⟩
    · exact hcell _ _ (by rw [Nat.mul_comm]; exact g1)
    · exact hcell _ _ (by rw [Nat.mul_comm]; exact g2)
    · exact hcell _ _ (by rw [Nat.mul_comm]; exact g3)
    · obtain ⟨a4, c4, rfl, b4⟩ := ownsRow_bytes (hv2 x hx)
      exact ⟨a4, c4, rfl, b4⟩

end Go.Proofs.YbulkbgzmFmt
