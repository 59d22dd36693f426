/-
  CScript: KEYS AND 'search'.
-/
import Derived.Test.YbulkbgzmFmtRT3
import Derived.Lib.Bytealg
import Derived.Lib.UnsafeStr
import Derived.Lib.BytesEntry
import Derived.Shelf.Lay
import Derived.Deep.DeepCutAuto
import Derived.Deep.QuietTactic
import Derived.BigQuiet
import Derived.WalkSpells
namespace Go.Proofs.YbulkbgzmFmt
open Go.RowKit Go.Stop
set_option linter.unusedVariables false

/-- The law's key number k: 'k', 'a' + k. -/
def keyB (k : Nat) : List UInt8 := [107, UInt8.ofNat (97 + k)]
theorem keyB_len (k : Nat) : (keyB k).length = 2 := rfl
theorem keyB_cmp {a b : Nat} (ha : a < 40) (hb : b < 40) : Lib.compareBytes (keyB a) (keyB b) = if a < b then -1 else if b < a then 1 else 0 := by
  have h : ∀ x : _root_.Fin 40, ∀ y : _root_.Fin 40, Lib.compareBytes (keyB x) (keyB y) = if x.1 < y.1 then -1 else if y.1 < x.1 then 1 else 0 := by decide
  exact h ⟨a, ha⟩ ⟨b, hb⟩
theorem keyB_inj {a b : Nat} (ha : a < 40) (hb : b < 40) : (keyB a == keyB b) = decide (a = b) := by
  have h : ∀ x : _root_.Fin 40, ∀ y : _root_.Fin 40, (keyB x == keyB y) = decide (x.1 = y.1) := by decide
  exact h ⟨a, ha⟩ ⟨b, hb⟩

/-- A slice that holds key k. -/
def KeyAt (w : World) (v : Value) (k : Nat) : Prop := ∃ a c, v = .slice a 2 c ∧ BytesAt w a 2 (keyB k) ∧ k < 40 ∧ 2 ≤ c
theorem KeyAt.below {w w' : World} {v : Value} {k : Nat} (h : KeyAt w v k) (hb : Below w.heap.size w w') : KeyAt w' v k := by
  obtain ⟨a, c, h1, h2, h3, h4⟩ := h; exact ⟨a, c, h1, h2.below hb, h3, h4⟩

theorem run_bytesOf {P : Program} {w : World} {a : Option Addr} {n c : Nat} {l : List UInt8} (h : BytesAt w a n l) : (Extern.Bytes.bytesOf (.slice a n c)).run P w = .ok ⟨l.toArray⟩ w := by
  obtain ⟨hl, h0 | ⟨b, o, rfl, hc⟩⟩ := h
  · subst h0
    obtain rfl : l = [] := List.eq_nil_of_length_eq_zero hl
    cases a with
    | none => rfl
    | some a => rfl
  · have hx := Lib.run_loadBytesX (P := P) w (l.map fun b => (b.toNat : Int)) ⟨b, o, none⟩ .empty (fun j x hj => by
      rw [Addr.add_lit]
      have hj' : j < l.length := by
        rcases Nat.lt_or_ge j l.length with h | h
        · exact h
        · rw [List.getElem?_eq_none (by simpa using h)] at hj; cases hj
      rw [hc j hj']
      simp only [List.getElem?_map, List.getElem?_eq_getElem hj', Option.map_some, Option.some.injEq] at hj
      rw [← hj])
    have hb : Lib.bytesOf (l.map fun b => (b.toNat : Int)) = l := by
      unfold Lib.bytesOf
      rw [List.map_map]
      conv => rhs; rw [← List.map_id l]
      exact List.map_congr_left fun b _ => by simp
    rw [hb, List.length_map, hl] at hx
    show (Extern.Bytes.loadBytes ⟨b, o, none⟩ n .empty).run P w = _
    rw [hx]
    congr 1
    apply ByteArray.ext
    simp

set_option maxRecDepth 100000 in
theorem compare_any {w : World} {a1 a2 : Option Addr} {n1 n2 c1 c2 : Nat} {l1 l2 : List UInt8} (h1 : BytesAt w a1 n1 l1) (h2 : BytesAt w a2 n2 l2) :
    Calls Ybaf.prog 24 #[.slice a1 n1 c1, .slice a2 n2 c2] w fun e w' => e = .returned (.int .i64 (Lib.compareBytes l1 l2)) ∧ w' = w := by
  have hrun : (Extern.BytealgCompare.compare #[.slice a1 n1 c1, .slice a2 n2 c2]).run Ybaf.prog w = .ok (.int .i64 (Lib.compareBytes l1 l2)) w := by
    change Sem.run Ybaf.prog (do pure (goInt (Extern.BytealgCompare.cmp (← Extern.Bytes.bytesOf (.slice a1 n1 c1)) (← Extern.Bytes.bytesOf (.slice a2 n2 c2))))) w = _
    simp only [Sem.run_bind, run_bytesOf h1, run_bytesOf h2, Result.andThen_ok, Sem.run_pure, Lib.cmp_eq]
    rfl
  go_enter Ybaf.func24, Ybaf.ntmps24
  go_wp2
  rw [run_callFunc_extern Ybaf.func38 (by kernel_rfl) (by kernel_rfl) (by kernel_rfl) (e := Extern.BytealgCompare.compare) (by kernel_rfl), hrun]
  simp only [Result.andThen]
  rw [Oper.upon_value]
  go_wp2
  go_ret
  exact ⟨rfl, rfl⟩

/-- bytes.Compare, bytes.Equal at two of the law's keys. -/
theorem compare_key {w : World} {a1 a2 : Option Addr} {c1 c2 k1 k2 : Nat} (h1 : BytesAt w a1 2 (keyB k1)) (h2 : BytesAt w a2 2 (keyB k2)) (l1 : k1 < 40) (l2 : k2 < 40) :
    Calls Ybaf.prog 24 #[.slice a1 2 c1, .slice a2 2 c2] w fun e w' => e = .returned (.int .i64 (if k1 < k2 then -1 else if k2 < k1 then 1 else 0)) ∧ w' = w := by
  have := compare_any (c1 := c1) (c2 := c2) h1 h2
  rw [keyB_cmp l1 l2] at this
  exact this
theorem equal_key {w : World} {a1 a2 : Option Addr} {c1 c2 k1 k2 : Nat} (h1 : BytesAt w a1 2 (keyB k1)) (h2 : BytesAt w a2 2 (keyB k2)) (l1 : k1 < 40) (l2 : k2 < 40) :
    Calls Ybaf.prog 8 #[.slice a1 2 c1, .slice a2 2 c2] w fun e w' => e = .returned (.bool (decide (k1 = k2))) ∧ w' = w := by
  have := equal_any (c1 := c1) (c2 := c2) h1 h2
  rw [keyB_inj l1 l2] at this
  exact this

/-- A row of values from an address on. -/
def RowAt (w : World) (a : Option Addr) (vs : List Value) : Prop := vs = [] ∨ ∃ g o, a = some ⟨g, o, none⟩ ∧ ∀ j v, vs[j]? = some v → w.cell? ⟨g, o + j, none⟩ = some v
theorem RowAt.below {w w' : World} {a : Option Addr} {vs : List Value} (h : RowAt w a vs) (hb : Below w.heap.size w w') : RowAt w' a vs := by
  rcases h with h | ⟨g, o, e, h⟩
  · exact .inl h
  · exact .inr ⟨g, o, e, fun j v hj => (hb.cell (World.block_lt_of_cell? _ _ (h j v hj))).trans (h j v hj)⟩
/-- The i-th key; whether k stands at i. -/
def kAt (ks : List Nat) (i : Nat) : Nat := ks.getD i 0
def isAt (ks : List Nat) (k i : Nat) : Bool := decide (i < ks.length ∧ kAt ks i = k)
/-- Keys, in ascending order. -/
def Asc (ks : List Nat) : Prop := ∀ i j, i < j → j < ks.length → kAt ks i < kAt ks j
/-- The values hold the keys. -/
def KeysAt (w : World) (vs : List Value) (ks : List Nat) : Prop := vs.length = ks.length ∧ ∀ j, j < ks.length → ∃ v, vs[j]? = some v ∧ KeyAt w v (kAt ks j)
theorem KeysAt.below {w w' : World} {vs : List Value} {ks : List Nat} (h : KeysAt w vs ks) (hb : Below w.heap.size w w') : KeysAt w' vs ks :=
  ⟨h.1, fun j hj => let ⟨v, h1, h2⟩ := h.2 j hj; ⟨v, h1, h2.below hb⟩⟩

/-- Where key k stands, or would stand. -/
def Found (ks : List Nat) (k i : Nat) : Prop := i ≤ ks.length ∧ (∀ j, j < i → kAt ks j < k) ∧ ∀ j, i ≤ j → j < ks.length → k ≤ kAt ks j

set_option maxRecDepth 100000 in
set_option maxHeartbeats 1000000 in
theorem search_any {w : World} {a a2 : Option Addr} {n c c2 : Nat} {vs : List Value} {ks : List Nat} {k : Nat} (hr : RowAt w a vs) (hk : KeysAt w vs ks) (hn : vs.length = n) (hn2 : n ≤ 64) (hkey : BytesAt w a2 2 (keyB k)) (hk40 : k < 40) (hasc : Asc ks) :
    Calls Ybaf.prog 35 #[.slice a n c, .slice a2 2 c2] w fun e w' => ∃ i, e = .returned (.tuple #[.int .i64 (i : Nat), .bool (isAt ks k i)]) ∧ Found ks k i ∧ w' = w := by
  have hlen : ks.length = n := by rw [← hk.1, hn]
  have HA : Hid (Asc ks) := hasc
  have HKey : Hid (BytesAt w a2 2 (keyB k)) := hkey
  have HRow : Hid (∀ j, j < n → ∃ g o aj cj, a = some ⟨g, o, none⟩ ∧ w.cell? ⟨g, o + j, none⟩ = some (.slice aj 2 cj) ∧ BytesAt w aj 2 (keyB (kAt ks j)) ∧ kAt ks j < 40) := by
    intro j hj
    obtain ⟨v, h1, aj, cj, rfl, h2, h3, _⟩ := hk.2 j (by omega)
    rcases hr with h | ⟨g, o, e, h⟩
    · rw [h] at h1; simp at h1
    · exact ⟨g, o, aj, cj, e, h j _ h1, h2, h3⟩
  clear hr hk hn hkey hasc
  go_enter Ybaf.func35, Ybaf.ntmps35
  go_wp2
  go_loop [6, 7] (fun lv hv => ∃ lo hi : Nat, lv = .int .i64 lo ∧ hv = .int .i64 hi ∧ lo ≤ hi ∧ hi ≤ n ∧ Hid (∀ j, j < lo → kAt ks j < k) ∧ Hid (∀ j, hi ≤ j → j < n → k ≤ kAt ks j)) (fun lv hv => (intOf hv).toNat - (intOf lv).toNat)
  case atStart => exact ⟨0, n, rfl, rfl, Nat.zero_le _, Nat.le_refl _, fun j hj => absurd hj (by omega), fun j h1 h2 => absurd h2 (by omega)⟩
  case round =>
    obtain ⟨lo, hi, rfl, rfl, h1, h2, H1, H2⟩ := hrel
    by_cases hlt : lo < hi
    · obtain ⟨g, o, aj, cj, rfl, hc, hb, h40⟩ := HRow.out ((lo + hi) / 2) (by omega)
      have HB : Hid (BytesAt w aj 2 (keyB (kAt ks ((lo + hi) / 2)))) := hb
      clear hb
      go_wp2_with fail
      refine (compare_key HB.out HKey.out h40 hk40).mono ?_
      rintro e w1 ⟨rfl, rfl⟩
      generalize hm : (lo + hi) / 2 = m at *
      have hmz : ((lo : Int) + (hi : Int)) / 2 = (m : Int) := by omega
      by_cases hcmp : kAt ks m < k
      · have hif : (if kAt ks m < k then (-1 : Int) else if k < kAt ks m then 1 else 0) = -1 := if_pos hcmp
        have H3 : Hid (∀ j, j < m + 1 → kAt ks j < k) := fun j hj => by
          by_cases e : j = m
          · subst e; exact hcmp
          · have := HA.out j m (by omega) (by omega); omega
        rw [hif]
        clear hc HB hif
        go_wp2
        go_round
        case rel => exact ⟨m + 1, hi, by go_num, rfl, by omega, h2, H3, H2⟩
        case measure => simp [intOf]; omega
      · have hif : (if kAt ks m < k then (-1 : Int) else if k < kAt ks m then 1 else 0) = (if k < kAt ks m then 1 else 0) := if_neg hcmp
        have hnn : ¬ (if kAt ks m < k then (-1 : Int) else if k < kAt ks m then 1 else 0) < 0 := by rw [hif]; split <;> omega
        have H3 : Hid (∀ j, m ≤ j → j < n → k ≤ kAt ks j) := fun j h1 hj => by
          by_cases e : j = m
          · subst e; omega
          · have := HA.out m j (by omega) (by omega); omega
        generalize (if kAt ks m < k then (-1 : Int) else if k < kAt ks m then 1 else 0) = cv at *
        clear hc HB hif
        go_wp2
        go_round
        case rel => exact ⟨lo, m, rfl, by go_num, by omega, by omega, H1, H3⟩
        case measure => simp [intOf]; omega
    · obtain rfl : lo = hi := by omega
      have HFound : Hid (Found ks k lo) := ⟨by omega, H1.out, fun j hj hl => H2.out j hj (by omega)⟩
      by_cases hend : lo < n
      · obtain ⟨g, o, aj, cj, rfl, hc, hb, h40⟩ := HRow.out lo hend
        have HB : Hid (BytesAt w aj 2 (keyB (kAt ks lo))) := hb
        have hdec : isAt ks k lo = decide (kAt ks lo = k) := by unfold isAt; rw [hlen]; simp [hend]
        clear hb
        go_wp2_with fail
        refine (equal_key HB.out HKey.out h40 hk40).mono ?_
        rintro e w1 ⟨rfl, rfl⟩
        rw [← hdec]
        clear hdec hc HB
        generalize hfd : isAt ks k lo = fd at *
        go_wp2
        go_ret2
        exact ⟨lo, by rw [hfd]; rfl, HFound.out, rfl⟩
      · have hdec : isAt ks k lo = false := by unfold isAt; rw [hlen]; simp [hend]
        go_wp2
        go_ret2
        exact ⟨lo, by rw [hdec]; rfl, HFound.out, rfl⟩

end Go.Proofs.YbulkbgzmFmt
