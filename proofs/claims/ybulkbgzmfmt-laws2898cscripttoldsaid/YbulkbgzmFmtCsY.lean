/-
  CScript: the law's argument, opened.
-/
import Derived.Test.YbulkbgzmFmtCsX
import Derived.Deep.Slices
import Derived.ChangeSame
import Derived.OpenShut
namespace Go.Proofs.YbulkbgzmFmt
open Go.RowKit Go.Deep Go.Stop
set_option linter.unusedVariables false

theorem cs_cells5 : Ybaf.prog.cellsOf 5 = 1 := by kernel_rfl
theorem cs_cells4 : Ybaf.prog.cellsOf 4 = 1 := by kernel_rfl
theorem cs_cells9 : Ybaf.prog.cellsOf 9 = 1 := by kernel_rfl
theorem cs_cells63 : Ybaf.prog.cellsOf 63 = 3 := by kernel_rfl
theorem cs_spot_none {w : World} {a : Addr} {i : Nat} {v : Value} (hi : i = 0) (h : w.cell? (a.add i) = some v) : a.spot = none := by
  obtain ⟨b, o, sp⟩ := a
  cases sp with
  | none => rfl
  | some x =>
    rw [show (⟨b, o, some x⟩ : Addr).add i = ⟨b, o, some x⟩ by unfold Addr.add; rw [if_pos hi]] at h
    simp only [World.cell?] at h
    split at h <;> simp at h

variable {H : Type} {enc : TypeId × Value → H} {w : World} {spare : Nat → Bool} {held : Bool}

set_option maxRecDepth 100000 in
theorem open_s {v : Value} {d : DataW H} {ps : List MemPlace} (h : DataW.Trod enc Ybaf.prog w 0 spare held 41 v d ps) (h1 : v.cells.toList = [v]) :
    ∃ a n c, v = .slice a n c ∧ ∃ P K V, n = 0 ∨ ∃ b off, a = some ⟨b, off, none⟩ ∧ InS w b off n P K V := by
  obtain ⟨fuel, h⟩ := h
  rw [h1] at h
  rcases open_slice Ybaf.underlying41 h with ⟨hc, _⟩ | ⟨a, len, cap, m, n, D, Pl, hc, _, hl, hm, hmm, _, hx⟩
  · obtain rfl := List.singleton_inj.1 hc
    exact ⟨none, 0, 0, rfl, fun _ => false, fun _ => 0, fun _ => ⟨#[]⟩, .inl rfl⟩
  · obtain rfl := List.singleton_inj.1 hc
    refine ⟨some a, len, cap, rfl, ?_⟩
    by_cases h0 : len = 0
    · exact ⟨fun _ => false, fun _ => 0, fun _ => ⟨#[]⟩, .inl h0⟩
    have hlm : len ≤ m := by rw [hmm]; split <;> omega
    have each : ∀ i, i < len → ∃ q : Bool × UInt8 × ByteArray, w.cell? (a.add (i * 3)) = some (.bool q.1) ∧ w.cell? (a.add (i * 3 + 1)) = some (.int .u8 q.2.1.toNat) ∧ w.cell? (a.add (i * 3 + 2)) = some (.string q.2.2) := by
      intro i hi
      obtain ⟨cs', g1, g2⟩ := hx i (by omega)
      rw [cs_cells63] at g1
      obtain ⟨_, hlen, hcell⟩ := World.cells?_some g1
      obtain ⟨xs, k, hk, hxy, _, hxl, hf⟩ := DataW.trod_struct Ybaf.underlying63 g2
      match xs, hxl, cs', hlen with
      | [y0, y1, y2], _, [v0, v1, v2], _ =>
        have t0 := hf 0 _ rfl
        have t1 := hf 1 _ rfl
        have t2 := hf 2 _ rfl
        simp [cs_cells4, cs_cells5, cs_cells9] at t0 t1 t2
        have e0 := hcell 0 (by omega)
        have e1 := hcell 1 (by omega)
        have e2 := hcell 2 (by omega)
        rw [add_add] at e0 e1 e2
        obtain ⟨b, hb, _⟩ := DataW.trod_bool Ybaf.underlying4 t0
        obtain rfl := List.singleton_inj.1 hb
        obtain ⟨z, hz, _, hw⟩ := DataW.trod_int Ybaf.underlying5 t1
        obtain rfl := List.singleton_inj.1 hz
        obtain ⟨s, hs, _, _⟩ := DataW.trod_string Ybaf.underlying9 t2
        obtain rfl := List.singleton_inj.1 hs
        have hr : 0 ≤ z ∧ z < 256 := by
          have := _root_.Go.bounds_u8 hw
          omega
        have hu : ((UInt8.ofNat z.toNat).toNat : Int) = z := by
          simp
          omega
        refine ⟨(b, UInt8.ofNat z.toNat, s), by simpa using e0, ?_, by simpa using e2⟩
        show w.cell? (a.add (i * 3 + 1)) = some (.int .u8 ((UInt8.ofNat z.toNat).toNat : Int))
        rw [hu]
        simpa using e1
    obtain ⟨q, hq⟩ := choose_lt each
    have hs := cs_spot_none rfl (hq 0 (by omega)).1
    obtain ⟨b, o, sp⟩ := a
    obtain rfl : sp = none := hs
    refine ⟨fun i => (q i).1, fun i => (q i).2.1, fun i => (q i).2.2, .inr ⟨b, o, rfl, fun i hi => ?_⟩⟩
    obtain ⟨a1, a2, a3⟩ := hq i hi
    rw [Addr.add_lit] at a1 a2 a3
    exact ⟨a1, by rw [← a2, Nat.add_assoc], by rw [← a3, Nat.add_assoc]⟩

/-- THE LAW, WHATEVER ITS ARGUMENT. -/
theorem cs_any {v : Value} {d : DataW H} {ps : List MemPlace} (h : DataW.Trod enc Ybaf.prog w 0 spare held 41 v d ps) (h1 : v.cells.toList = [v]) (hS : Sen w) :
    Calls Ybaf.prog 5 #[v] w fun e w' => e = .returned (.bool true) ∧ Below w.heap.size w w' := by
  obtain ⟨a, n, c, rfl, P, K, V, hin⟩ := open_s h h1
  by_cases hn : 1024 < n
  · refine (law_long a n c w hn).mono ?_
    rintro e w' ⟨rfl, rfl⟩
    exact ⟨rfl, Below.refl _ _⟩
  · obtain ⟨a1, s1, g1, -⟩ := hS 1 (by omega)
    obtain ⟨a2, s2, g2, -⟩ := hS 2 (by omega)
    exact law_core a n c w P K V (by omega) hin g1 g2

end Go.Proofs.YbulkbgzmFmt
