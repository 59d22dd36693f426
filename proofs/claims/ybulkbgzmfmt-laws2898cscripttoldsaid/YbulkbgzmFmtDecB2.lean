/-
  'decodeBytes', 'CheckKey', 'CheckValue' BY CONTRACTS.
-/
import Derived.Test.YbulkbgzmFmtDecB
namespace Go.Proofs.YbulkbgzmFmt
open Go.RowKit

theorem decodeBytes_ok {w : World} {a : Option Addr} {n c : Nat} {l k r : List UInt8} (h : BytesAt w a n l) (hnc : n ≤ c) (hn : n ≤ 1099511627776) (hf : field l = some (k, r)) :
    Calls Ybaf.prog 14 #[.slice a n c] w fun e w' => ∃ ak ck a' c', e = .returned (.tuple #[.slice ak k.length ck, .slice a' r.length c', .nilIface]) ∧
      w'.ownsRow w.heap.size 5 1 (.slice ak k.length ck) k.length (Lib.byteCells k) ∧ ak ≠ none ∧ (∀ X, BytesAt X a n l → BytesAt X a' r.length r) ∧ r.length ≤ c' ∧ Below w.heap.size w w' := by
  obtain ⟨p, e2, hp, hps, rfl, rfl⟩ := field_some hf
  have hlen := h.len
  rcases h.2 with h0 | ⟨b, o, rfl, hc⟩
  · omega
  · generalize e1 : (Lib.uvarintDec l).1 = s at *
    obtain ⟨q, rfl⟩ : ∃ q, n = p + (s + q) := ⟨n - p - s, by omega⟩
    obtain ⟨d, rfl⟩ : ∃ d, c = p + (s + d) := ⟨c - p - s, by omega⟩
    have ek : ((l.drop p).take s).length = s := by simp; omega
    have er : ((l.drop p).drop s).length = q := by simp; omega
    rw [ek, er]
    refine (decodeBytes_core b o p s q d l w h (by omega) hn e2 e1 hp).mono ?_
    rintro e w' ⟨vk, o', rfl, h1, h2, h3, h4⟩
    obtain ⟨ak, ck, rfl, _⟩ := ownsRow_bytes h1
    refine ⟨ak, ck, _, d, rfl, h1, (fun e => ?_), h3, by omega, h4⟩
    subst e
    rcases h1.2 with ⟨hv, _⟩ | ⟨g, cap, cur, hv, _⟩
    · exact h2 hv
    · cases hv

set_option maxRecDepth 100000 in
set_option maxHeartbeats 400000 in
theorem decodeBytes_err {w : World} {a : Option Addr} {n c : Nat} {l : List UInt8} (h : BytesAt w a n l) (hn : n ≤ 1099511627776) (hf : field l = none) :
    Calls Ybaf.prog 14 #[.slice a n c] w fun e w' => ∃ x, e = .returned (.tuple #[.slice none 0 0, .slice none 0 0, .iface 99 x]) ∧ Below w.heap.size w w' := by
  have hlen := h.len
  have hle := uvarintDec_le l
  have hlt := Lib.uvarintDec_lt l
  have HU := uvarint_any (c := c) h
  have hcase := field_none hf
  generalize (Lib.uvarintDec l).1 = s at *
  generalize (Lib.uvarintDec l).2 = p at *
  clear h hf
  by_cases hp : p ≤ 0
  · clear hcase
    go_enter Ybaf.func14, Ybaf.ntmps14
    go_wp2_with fail
    refine HU.mono ?_
    rintro e w1 ⟨rfl, rfl⟩
    clear HU
    go_wp2
    go_ret3
    exact ⟨_, rfl, (Below.refl _ _).alloc (Nat.le_refl _) _⟩
  · obtain ⟨q, rfl⟩ := Int.eq_ofNat_of_zero_le (show 0 ≤ p by omega)
    have h2 : (n : Int) - (q : Int) < (s : Int) := by omega
    clear hcase
    go_enter Ybaf.func14, Ybaf.ntmps14
    go_wp2_with fail
    refine HU.mono ?_
    rintro e w1 ⟨rfl, rfl⟩
    clear HU
    go_wp2
    go_ret3
    exact ⟨_, rfl, (Below.refl _ _).alloc (Nat.le_refl _) _⟩

/-- A key within the limits. -/
theorem checkKey_ok {w : World} {a : Option Addr} {n c : Nat} {v1 : Value} (h1 : 0 < n) (h2 : n ≤ 4096) (hg : w.cell? ⟨1, 0, none⟩ = some v1) :
    Calls Ybaf.prog 15 #[.slice a n c] w fun e w' => e = .returned .nilIface ∧ w' = w := by
  have h0 : ((n : Int) == 0) = false := by simp; omega
  have h3 : ¬ (4096 : Int) < (n : Int) := by omega
  go_enter Ybaf.func15, Ybaf.ntmps15
  go_wp2
  go_ret
  exact ⟨rfl, rfl⟩

theorem checkValue_ok {w : World} {a : Option Addr} {n c : Nat} {v2 : Value} (h2 : n ≤ 16777216) (hg : w.cell? ⟨2, 0, none⟩ = some v2) :
    Calls Ybaf.prog 16 #[.slice a n c] w fun e w' => e = .returned .nilIface ∧ w' = w := by
  have h3 : ¬ (16777216 : Int) < (n : Int) := by omega
  go_enter Ybaf.func16, Ybaf.ntmps16
  go_wp2
  go_ret
  exact ⟨rfl, rfl⟩

end Go.Proofs.YbulkbgzmFmt
