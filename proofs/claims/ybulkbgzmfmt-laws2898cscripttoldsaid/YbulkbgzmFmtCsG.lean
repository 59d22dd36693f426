/-
  CScript: 'get'.
-/
import Derived.Test.YbulkbgzmFmtCsF
namespace Go.Proofs.YbulkbgzmFmt
open Go.RowKit Go.Stop
set_option linter.unusedVariables false

set_option maxRecDepth 100000 in
theorem get_nil {w : World} {key : Value} : Calls Ybaf.prog 21 #[.pointer none, key] w fun e w' => e = .returned (.tuple #[.slice none 0 0, .bool false]) ∧ w' = w := by
  go_enter Ybaf.func21, Ybaf.ntmps21
  go_wp2
  go_ret2
  exact ⟨rfl, rfl⟩

/-- The block that a node's pointer names. -/
def blockOf : Value → Nat
  | .pointer (some a) => a.block
  | _ => 0

set_option maxRecDepth 100000 in
set_option maxHeartbeats 4000000 in
theorem get_any {w : World} {key : Value} {st bx gx n i : Nat} {ks vs : List Value} {fd : Bool} {v : Value} (h : NewLeaf w bx gx n (ks ++ vs)) (hk : ks.length = n) (hv : vs.length = n)
    (hst : st ≠ bx → ∃ g0 h0 j r ks0 ca cb, NewInner w st g0 h0 (j + r + 1) ks0 (ca ++ .pointer (some ⟨bx, 0, none⟩) :: cb) ∧ ca.length = j ∧ ∀ X, Below w.heap.size w X → Calls Ybaf.prog 34 #[.pointer (some ⟨st, 0, none⟩), key] X fun e w' => e = .returned (.int .i64 (j : Nat)) ∧ w' = X)
    (hS : ∀ X, Below w.heap.size w X → Calls Ybaf.prog 35 #[.slice (some ⟨gx, 0, none⟩) n n, key] X fun e w' => e = .returned (.tuple #[.int .i64 (i : Nat), .bool fd]) ∧ w' = X)
    (hf : fd = true → i < n ∧ vs[i]? = some v) :
    Calls Ybaf.prog 21 #[.pointer (some ⟨st, 0, none⟩), key] w fun e w' => e = .returned (.tuple #[if fd then v else .slice none 0 0, .bool fd]) ∧ Below w.heap.size w w' := by
  have HL : Hid (NewLeaf w bx gx n (ks ++ vs)) := h
  have HR : Hid (RowAt w (some ⟨gx, n, none⟩) vs) := (h.rows hk).2
  have HF : Hid (fd = true → i < n ∧ vs[i]? = some v) := hf
  have HST : Hid (st ≠ bx → ∃ g0 h0 j r ks0 ca cb, NewInner w st g0 h0 (j + r + 1) ks0 (ca ++ .pointer (some ⟨bx, 0, none⟩) :: cb) ∧ ca.length = j ∧ ∀ X, Below w.heap.size w X → Calls Ybaf.prog 34 #[.pointer (some ⟨st, 0, none⟩), key] X fun e w' => e = .returned (.int .i64 (j : Nat)) ∧ w' = X) := hst
  have HS : Hid (∀ X, Below w.heap.size w X → Calls Ybaf.prog 35 #[.slice (some ⟨gx, 0, none⟩) n n, key] X fun e w' => e = .returned (.tuple #[.int .i64 (i : Nat), .bool fd]) ∧ w' = X) := hS
  have n1 := neqnil89
  have n2 := neqsome89
  clear h hk hv hst hS hf
  go_enter Ybaf.func21, Ybaf.ntmps21
  go_wp2
  go_loopw [0] (fun nv wr => ∃ c, nv = .pointer (some ⟨c, 0, none⟩) ∧ (c = st ∨ c = bx) ∧ Hid (Below w.heap.size w wr)) (fun nv wr => if blockOf nv = bx then 0 else 1)
  case atStart => exact ⟨st, rfl, .inl rfl, Below.refl _ _⟩
  case round =>
    obtain ⟨c, rfl, hc, HBel⟩ := hrel
    by_cases hx : c = bx
    · subst hx
      have h2 := (HL.out.1.below HBel.out).c2
      have h0 := (HL.out.1.below HBel.out).c0
      have h1 := (HL.out.1.below HBel.out).c1
      have HS1 : Hid (Calls Ybaf.prog 35 #[.slice (some ⟨gx, 0, none⟩) n n, key] wr fun e w' => e = .returned (.tuple #[.int .i64 (i : Nat), .bool fd]) ∧ w' = wr) := HS.out wr HBel.out
      clear HS HST hc
      go_wp2_with fail
      refine HS1.out.mono ?_
      rintro e w1 ⟨rfl, hw⟩
      have hw := hw.symm
      subst hw
      clear HS1
      cases fd with
      | false =>
        go_wp2
        go_ret2
        exact ⟨rfl, HBel.out⟩
      | true =>
        obtain ⟨hi, hvi⟩ := HF.out rfl
        have hil : (i : Int) < (n : Int) := by omega
        have hcell : wr.cell? ⟨gx, n + i, none⟩ = some v := by
          rcases HR.out with e | ⟨gg, oo, e, hh⟩
          · rw [e] at hvi; simp at hvi
          · simp only [Option.some.injEq, Addr.mk.injEq, and_true] at e
            obtain ⟨rfl, rfl⟩ := e
            exact k1_of (hh i v hvi) HBel.out
        clear hvi
        go_wp2
        go_ret2
        exact ⟨rfl, HBel.out⟩
    · obtain rfl : c = st := by rcases hc with h | h; exact h; exact absurd h hx
      obtain ⟨g0, h0, j, r, ks0, ca, cb, hN, hl, hC⟩ := HST.out hx
      have h2 := (hN.1.below HBel.out).c2
      have hkid := k1_of (hN.kid hl) HBel.out
      have HC : Hid (∀ X, Below w.heap.size w X → Calls Ybaf.prog 34 #[.pointer (some ⟨c, 0, none⟩), key] X fun e w' => e = .returned (.int .i64 (j : Nat)) ∧ w' = X) := hC
      have hjl : (j : Int) < (j : Int) + (r : Int) + 1 := by omega
      clear hN hl hC hc HST
      go_upto_region 4 with (fail)
      go_region_held3 (fun w' => w'.cell? ⟨c, 2, none⟩ = some (.slice (some ⟨h0, 0, none⟩) (j + r + 1) (j + r + 1)) ∧ w'.cell? ⟨h0, j, none⟩ = some (.pointer (some ⟨bx, 0, none⟩))) (go_keep) ((go_at_call 34; refine (HC.out _ HBel.out.drew).mono ?_; rintro e X1 ⟨rfl, rfl⟩))
      all_goals
        go_wp2_with fail
        go_round
        case rel => exact ⟨bx, rfl, .inr rfl, HBel.out.drew⟩
        case measure => simp [blockOf, hx]

end Go.Proofs.YbulkbgzmFmt
