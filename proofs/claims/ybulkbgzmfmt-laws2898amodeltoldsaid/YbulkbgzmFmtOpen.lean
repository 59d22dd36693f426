/-
  THE LAWS' ARGUMENTS, OPENED: a slice of bytes; a slice of {Del, Key, Value}.
-/
import Derived.Test.YbulkbgzmFmtRT2
import Derived.Test.YbulkbgzmFmtRT4
import Derived.Deep.Slices
import Derived.ChangeSame
import Derived.OpenShut
namespace Go.Proofs.YbulkbgzmFmt
open Go.RowKit Go.Deep Go.Stop
set_option linter.unusedVariables false

theorem cells5 : Ybaf.prog.cellsOf 5 = 1 := by kernel_rfl
theorem cells4 : Ybaf.prog.cellsOf 4 = 1 := by kernel_rfl
theorem cells22 : Ybaf.prog.cellsOf 22 = 1 := by kernel_rfl
theorem cells37 : Ybaf.prog.cellsOf 37 = 3 := by kernel_rfl

theorem spot_none {w : World} {a : Addr} {i : Nat} {v : Value} (hi : i = 0) (h : w.cell? (a.add i) = some v) : a.spot = none := by
  obtain ⟨b, o, sp⟩ := a
  cases sp with
  | none => rfl
  | some x =>
    rw [show (⟨b, o, some x⟩ : Addr).add i = ⟨b, o, some x⟩ by unfold Addr.add; rw [if_pos hi]] at h
    simp only [World.cell?] at h
    split at h <;> simp at h

variable {H : Type} {enc : TypeId × Value → H} {w : World} {spare : Nat → Bool} {held : Bool}

/-- A []byte that came in. -/
theorem open_bytes {fuel : Nat} {v : Value} {x : DataW H × List MemPlace} (h : DataW.trod enc Ybaf.prog w 0 spare held fuel 22 [v] = some x) : ∃ l, SlIn w v l := by
  rcases open_slice1 Ybaf.underlying22 cells5 h with ⟨hc, _⟩ | ⟨a, len, cap, m, n, V, D, Pl, hc, _, hl, hm, hmm, _, hx⟩
  · obtain rfl := List.singleton_inj.1 hc
    exact ⟨[], none, 0, 0, rfl, BytesAt.nil _ _, Nat.le_refl _, fun _ => ⟨rfl, rfl⟩, by omega⟩
  · obtain rfl := List.singleton_inj.1 hc
    have hlm : len ≤ m := by rw [hmm]; split <;> omega
    have hv : ∀ i, i < len → ∃ b : UInt8, w.cell? (a.add i) = some (.int .u8 b.toNat) := fun i hi => by
      obtain ⟨h1, h2⟩ := hx i (by omega)
      obtain ⟨z, hz, _, hw⟩ := DataW.trod_int Ybaf.underlying5 h2
      obtain hz := List.singleton_inj.1 hz
      have hr : 0 ≤ z ∧ z < 256 := by
        have := _root_.Go.bounds_u8 hw
        omega
      refine ⟨UInt8.ofNat z.toNat, ?_⟩
      rw [h1, hz]
      have : ((UInt8.ofNat z.toNat).toNat : Int) = z := by
        simp
        omega
      rw [this]
    obtain ⟨f, hf⟩ := choose_lt hv
    refine ⟨(List.range len).map f, some a, len, cap, rfl, ⟨by simp, ?_⟩, hl, (fun e => by cases e), by unfold maxLen at hm; omega⟩
    by_cases h0 : len = 0
    · exact .inl h0
    · have hs := spot_none rfl (hf 0 (by omega))
      obtain ⟨b, o, sp⟩ := a
      obtain rfl : sp = none := hs
      refine .inr ⟨b, o, rfl, fun j hj => ?_⟩
      have hj' : j < len := by simpa using hj
      have := hf j hj'
      rw [Addr.add_lit] at this
      simpa using this

set_option maxRecDepth 100000 in
/-- The argument of the law. -/
theorem open_in {v : Value} {d : DataW H} {ps : List MemPlace} (h : DataW.Trod enc Ybaf.prog w 0 spare held 34 v d ps) (h1 : v.cells.toList = [v]) :
    ∃ a n c, v = .slice a n c ∧ (n = 0 ∨ ∃ b off ds, a = some ⟨b, off, none⟩ ∧ ds.length = n ∧ InAt w b off ds) := by
  obtain ⟨fuel, h⟩ := h
  rw [h1] at h
  rcases open_slice Ybaf.underlying34 h with ⟨hc, _⟩ | ⟨a, len, cap, m, n, D, Pl, hc, _, hl, hm, hmm, _, hx⟩
  · obtain rfl := List.singleton_inj.1 hc
    exact ⟨none, 0, 0, rfl, .inl rfl⟩
  · obtain rfl := List.singleton_inj.1 hc
    refine ⟨some a, len, cap, rfl, ?_⟩
    by_cases h0 : len = 0
    · exact .inl h0
    have hlm : len ≤ m := by rw [hmm]; split <;> omega
    have each : ∀ i, i < len → ∃ q : Bool × List UInt8 × List UInt8, w.cell? (a.add (i * 3)) = some (.bool q.1) ∧ (∃ kv, w.cell? (a.add (i * 3 + 1)) = some kv ∧ SlIn w kv q.2.1) ∧ ∃ vv, w.cell? (a.add (i * 3 + 2)) = some vv ∧ SlIn w vv q.2.2 := by
      intro i hi
      obtain ⟨cs', g1, g2⟩ := hx i (by omega)
      rw [cells37] at g1
      obtain ⟨_, hlen, hcell⟩ := World.cells?_some g1
      obtain ⟨xs, k, hk, hxy, _, hxl, hf⟩ := DataW.trod_struct Ybaf.underlying37 g2
      match xs, hxl, cs', hlen with
      | [y0, y1, y2], _, [v0, v1, v2], _ =>
        have t0 := hf 0 _ rfl
        have t1 := hf 1 _ rfl
        have t2 := hf 2 _ rfl
        simp [cells4, cells22] at t0 t1 t2
        have e0 := hcell 0 (by omega)
        have e1 := hcell 1 (by omega)
        have e2 := hcell 2 (by omega)
        rw [add_add] at e0 e1 e2
        obtain ⟨b, hb, _⟩ := DataW.trod_bool Ybaf.underlying4 t0
        obtain rfl := List.singleton_inj.1 hb
        obtain ⟨l1, s1⟩ := open_bytes t1
        obtain ⟨l2, s2⟩ := open_bytes t2
        exact ⟨(b, l1, l2), by simpa using e0, ⟨v1, by simpa using e1, s1⟩, v2, by simpa using e2, s2⟩
    obtain ⟨q, hq⟩ := choose_lt each
    have hs := spot_none rfl (hq 0 (by omega)).1
    obtain ⟨b, o, sp⟩ := a
    obtain rfl : sp = none := hs
    refine .inr ⟨b, o, (List.range len).map fun i => ⟨(q i).1, (q i).2.1, (q i).2.2⟩, rfl, by simp, fun i hi => ?_⟩
    have hi' : i < len := by simpa using hi
    obtain ⟨a1, ⟨kv, a2, a3⟩, vv, a4, a5⟩ := hq i hi'
    rw [Addr.add_lit] at a1 a2 a4
    simp only [List.getElem_map, List.getElem_range]
    exact ⟨a1, ⟨kv, by rw [← a2, Nat.add_assoc], a3⟩, vv, by rw [← a4, Nat.add_assoc], a5⟩

/-- THE LAW, WHATEVER ITS ARGUMENT. -/
theorem rt_any (F : Interp) {v : Value} {d : DataW H} {ps : List MemPlace} (h : DataW.Trod enc Ybaf.prog w 0 spare held 34 v d ps) (h1 : v.cells.toList = [v]) (hF : F.answers w.tape) (hS : Sen w) :
    Calls Ybaf.prog 4 #[v] w fun e w' => e = .returned (.bool true) ∧ Below w.heap.size w w' := by
  obtain ⟨a, n, c, rfl, hn⟩ := open_in h h1
  by_cases hbig : 1024 < n
  · exact rt_long a n c w hbig
  · rcases hn with rfl | ⟨b, off, ds, rfl, hl, hi⟩
    · exact rt_empty F a c w hF hS
    · by_cases h0 : n = 0
      · subst h0; exact rt_empty F _ c w hF hS
      · exact rt_core F n c b off ds w hF hS (by omega) (by omega) hl hi

end Go.Proofs.YbulkbgzmFmt
