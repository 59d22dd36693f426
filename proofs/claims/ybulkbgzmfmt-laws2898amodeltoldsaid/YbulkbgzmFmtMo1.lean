/-
  'zzs2898afield', 'zzs2898amodel': the law's own decoder, which shares memory with its argument.
-/
import Derived.Test.YbulkbgzmFmtDecW
import Derived.Deep.DeepCutAuto
import Derived.Deep.QuietTactic
import Derived.BigQuiet
import Derived.WalkSpells
namespace Go.Proofs.YbulkbgzmFmt
open Go.RowKit Go.Stop
set_option linter.unusedVariables false

set_option maxRecDepth 100000 in
set_option maxHeartbeats 800000 in
theorem zfield_core (b o p s r d : Nat) (l : List UInt8) (w : World) (h : BytesAt w (some ⟨b, o, none⟩) (p + (s + r)) l) (hrd : r ≤ d) (hn : p + (s + r) ≤ 1099511627776)
    (e2 : (Lib.uvarintDec l).2 = (p : Int)) (e1 : (Lib.uvarintDec l).1 = s) (hp : 0 < p) :
    Calls Ybaf.prog 13 #[.slice (some ⟨b, o, none⟩) (p + (s + r)) (p + (s + d))] w fun e w' => ∃ a1 a2 m, e = .returned (.tuple #[.slice a1 s (s + d), .slice a2 r d, .bool true]) ∧
      (∀ X, BytesAt X (some ⟨b, o, none⟩) (p + (s + r)) l → BytesAt X a1 s ((l.drop p).take s) ∧ BytesAt X a2 r ((l.drop p).drop s)) ∧ w' = w.drewN m := by
  have hlen := h.len
  have H1 : Hid (∀ X, BytesAt X (some ⟨b, o, none⟩) (p + (s + r)) l → BytesAt X (some ⟨b, o + p, none⟩) s ((l.drop p).take s)) := fun X h => h.piece p s (by omega)
  have H2 : Hid (∀ X, BytesAt X (some ⟨b, o, none⟩) (p + (s + r)) l → BytesAt X (some ⟨b, o + p + s, none⟩) r ((l.drop p).drop s)) := by
    intro X h
    have h3 := h.piece (p + s) r (by omega)
    rw [List.drop_drop]
    rw [show o + p + s = o + (p + s) from by omega]
    rw [List.take_of_length_le (by simp; omega)] at h3
    exact h3
  have HL : Hid (l.length = p + (s + r)) := hlen
  have HU := uvarint_any (c := p + (s + d)) h
  rw [e1, e2] at HU
  clear h e1 e2 hlen
  have hp0 : ¬ ((p : Int) ≤ 0) := by omega
  have hsr : (s : Int) ≤ (s : Int) + (r : Int) := by omega
  have hsd : (s : Int) ≤ (s : Int) + (d : Int) := by omega
  by_cases hcp : s + d = 0
  · obtain rfl : s = 0 := by omega
    obtain rfl : d = 0 := by omega
    obtain rfl : r = 0 := by omega
    go_enter Ybaf.func13, Ybaf.ntmps13
    go_wp2_with fail
    refine HU.mono ?_
    rintro e w1 ⟨rfl, rfl⟩
    clear HU
    go_wp2
    go_quiet (fail)
    go_wp2
    go_ret3
    exact ⟨_, _, _, rfl, fun X _ => ⟨⟨by simp, .inl rfl⟩, ⟨by have := HL.out; simp; omega, .inl rfl⟩⟩, rfl⟩
  · by_cases hcs : d = 0
    · subst hcs
      obtain rfl : r = 0 := by omega
      go_enter Ybaf.func13, Ybaf.ntmps13
      go_wp2_with fail
      refine HU.mono ?_
      rintro e w1 ⟨rfl, rfl⟩
      clear HU
      go_wp2
      go_quiet (fail)
      go_wp2
      go_ret3
      exact ⟨_, _, _, rfl, fun X h => ⟨H1.out X h, ⟨by have := HL.out; simp; omega, .inl rfl⟩⟩, rfl⟩
    · go_enter Ybaf.func13, Ybaf.ntmps13
      go_wp2_with fail
      refine HU.mono ?_
      rintro e w1 ⟨rfl, rfl⟩
      clear HU
      go_wp2
      go_quiet (fail)
      go_wp2
      go_ret3
      exact ⟨_, _, _, rfl, fun X h => ⟨H1.out X h, H2.out X h⟩, rfl⟩

theorem zfield_ok {w : World} {a : Option Addr} {n c : Nat} {l k r : List UInt8} (h : BytesAt w a n l) (hnc : n ≤ c) (hn : n ≤ 1099511627776) (hf : field l = some (k, r)) :
    Calls Ybaf.prog 13 #[.slice a n c] w fun e w' => ∃ a1 c1 a2 c2 m, e = .returned (.tuple #[.slice a1 k.length c1, .slice a2 r.length c2, .bool true]) ∧
      (∀ X, BytesAt X a n l → BytesAt X a1 k.length k ∧ BytesAt X a2 r.length r) ∧ r.length ≤ c2 ∧ w' = w.drewN m := by
  obtain ⟨p, e2, hp, hps, rfl, rfl⟩ := field_some hf
  have hlen := h.len
  rcases h.2 with h0 | ⟨b, o, rfl, hc⟩
  · omega
  · generalize e1 : (Lib.uvarintDec l).1 = s at *
    obtain ⟨q, rfl⟩ : ∃ q, n = p + (s + q) := ⟨n - p - s, by omega⟩
    obtain ⟨d, rfl⟩ : ∃ d, c = p + (s + d) := ⟨c - p - s, by omega⟩
    have ek : ((l.drop p).take s).length = s := by simp; omega
    have er : ((l.drop p).drop s).length = q := by simp; omega
    rw [ek, er]
    refine (zfield_core b o p s q d l w h (by omega) hn e2 e1 hp).mono ?_
    rintro e w' ⟨a1, a2, m, rfl, h1, h3⟩
    exact ⟨a1, _, a2, d, m, rfl, h1, by omega, h3⟩

set_option maxRecDepth 100000 in
set_option maxHeartbeats 400000 in
theorem zfield_err {w : World} {a : Option Addr} {n c : Nat} {l : List UInt8} (h : BytesAt w a n l) (hnc : n ≤ c) (hn : n ≤ 1099511627776) (hf : field l = none) :
    Calls Ybaf.prog 13 #[.slice a n c] w fun e w' => e = .returned (.tuple #[.slice none 0 0, .slice none 0 0, .bool false]) ∧ w' = w := by
  have hlen := h.len
  have hle := uvarintDec_le l
  have hlt := Lib.uvarintDec_lt l
  have HU := uvarint_any (c := c) h
  have hcase := field_none hf
  generalize (Lib.uvarintDec l).1 = s at *
  generalize (Lib.uvarintDec l).2 = p at *
  clear h hf
  by_cases hp : p ≤ 0
  · clear hcase
    go_enter Ybaf.func13, Ybaf.ntmps13
    go_wp2_with fail
    refine HU.mono ?_
    rintro e w1 ⟨rfl, rfl⟩
    clear HU
    go_wp2
    go_ret3
    exact ⟨rfl, rfl⟩
  · obtain ⟨q, rfl⟩ := Int.eq_ofNat_of_zero_le (show 0 ≤ p by omega)
    have h2 : (n : Int) - (q : Int) < (s : Int) := by omega
    clear hcase
    go_enter Ybaf.func13, Ybaf.ntmps13
    go_wp2_with fail
    refine HU.mono ?_
    rintro e w1 ⟨rfl, rfl⟩
    clear HU
    go_wp2 <;> (go_ret3; exact ⟨rfl, rfl⟩)

end Go.Proofs.YbulkbgzmFmt
