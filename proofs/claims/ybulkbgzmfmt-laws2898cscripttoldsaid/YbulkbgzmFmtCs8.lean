/-
  CScript: 'search' told by where the key stands; 'put' at a leaf that holds the key.
-/
import Derived.Test.YbulkbgzmFmtCs6
namespace Go.Proofs.YbulkbgzmFmt
open Go.RowKit Go.Stop
set_option linter.unusedVariables false

theorem Found.unique {kn : List Nat} {k i j : Nat} (hasc : Asc kn) (h1 : Found kn k i) (h2 : Found kn k j) : i = j := by
  rcases Nat.lt_trichotomy i j with h | h | h
  · have a := h2.2.1 i h
    have b := h1.2.2 i (Nat.le_refl _) (Nat.lt_of_lt_of_le h h2.1)
    omega
  · exact h
  · have a := h1.2.1 j h
    have b := h2.2.2 j (Nat.le_refl _) (Nat.lt_of_lt_of_le h h1.1)
    omega

theorem search_at {w : World} {a a2 : Option Addr} {n c c2 : Nat} {vs : List Value} {ks : List Nat} {k i : Nat} (hr : RowAt w a vs) (hk : KeysAt w vs ks) (hn : vs.length = n) (hn2 : n ≤ 64) (hkey : BytesAt w a2 2 (keyB k)) (hk40 : k < 40) (hasc : Asc ks) (hf : Found ks k i) :
    Calls Ybaf.prog 35 #[.slice a n c, .slice a2 2 c2] w fun e w' => e = .returned (.tuple #[.int .i64 (i : Nat), .bool (isAt ks k i)]) ∧ w' = w :=
  (search_any hr hk hn hn2 hkey hk40 hasc).mono fun e w' ⟨j, h1, h2, h3⟩ => by
    obtain rfl := Found.unique hasc h2 hf
    exact ⟨h1, h3⟩
theorem child_at {w : World} {p : Value} {ks cs : List Value} {kn : List Nat} {k i : Nat} {a : Option Addr} {c : Nat} (h : InnerV w p ks cs) (hk : KeysAt w ks kn) (hn : ks.length ≤ 64) (hkey : BytesAt w a 2 (keyB k)) (hk40 : k < 40) (hasc : Asc kn) (hf : Found kn k i) :
    Calls Ybaf.prog 34 #[p, .slice a 2 c] w fun e w' => e = .returned (.int .i64 (under kn k i : Nat)) ∧ w' = w :=
  (child_any h hk hn hkey hk40 hasc).mono fun e w' ⟨j, h1, h2, h3⟩ => by
    obtain rfl := Found.unique hasc h2 hf
    exact ⟨h1, h3⟩

theorem Bld.drewN {w X : World} {b g n : Nat} {cur : List Value} (h : Bld w X b g n cur) (m : Nat) : Bld w (X.drewN m) b g n cur := h.below ⟨rfl, rfl, rfl, Nat.le_refl _, fun _ _ => rfl⟩

set_option maxRecDepth 100000 in
set_option maxHeartbeats 2000000 in
theorem put_found {w : World} {key rv : Value} {av : Option Addr} {b0 g0 n i nv cv : Nat} {ks vs : List Value} (h : NewLeaf w b0 g0 n (ks ++ vs)) (hkl : ks.length = n) (hvl : vs.length = n) (hs1 : Sls ks) (hs2 : Sls vs) (hn : n ≤ 64) (hi : i < n)
    (hS : Calls Ybaf.prog 35 #[.slice (some ⟨g0, 0, none⟩) n n, key] w fun e w' => e = .returned (.tuple #[.int .i64 (i : Nat), .bool true]) ∧ w' = w) :
    Calls Ybaf.prog 31 #[.pointer (some ⟨b0, 0, none⟩), key, .slice av nv cv, rv] w fun e w' => ∃ b g, e = .returned (.tuple #[.pointer (some ⟨b, 0, none⟩), .slice none 0 0, .pointer none]) ∧ Bld w w' b g n (ks ++ vs.set i (.slice av nv cv)) := by
  have HCl : Hid (Calls Ybaf.prog 39 #[.pointer (some ⟨b0, 0, none⟩)] w fun e w' => ∃ b g, e = .returned (.pointer (some ⟨b, 0, none⟩)) ∧ Bld w w' b g n (ks ++ vs)) := by
    have := clone_leaf (h.leafV hkl hvl) hs1 hs2 (by omega)
    rw [hkl] at this
    exact this
  have HS : Hid (Calls Ybaf.prog 35 #[.slice (some ⟨g0, 0, none⟩) n n, key] w fun e w' => e = .returned (.tuple #[.int .i64 (i : Nat), .bool true]) ∧ w' = w) := hS
  have h0 := h.1.c0
  have h2 := h.1.c2
  have n1 := nil89
  have HK : Hid (ks.length = n) := hkl
  have HV : Hid (vs.length = n) := hvl
  clear h hs1 hs2 hkl hvl hS
  go_enter Ybaf.func31, Ybaf.ntmps31
  go_wp2_with fail
  refine HS.out.mono ?_
  rintro e w1 ⟨rfl, rfl⟩
  clear HS h0
  go_wp2_with fail
  refine HCl.out.mono ?_
  rintro e X ⟨b, g, rfl, hB⟩
  have HB : Hid (Bld w1 X b g n (ks ++ vs)) := hB
  clear hB HCl h2
  have m1 : X.cell? ⟨b, 1, none⟩ = some (.slice (some ⟨g, n, none⟩) n n) := HB.out.1.1.c1
  have hlt : (i : Int) < (n : Int) := by omega
  obtain ⟨old, ho⟩ : ∃ old, X.cell? ⟨g, n + i, none⟩ = some old := by
    have h := HB.out.1.2.1
    have hv := HV.out
    have hk := HK.out
    refine ⟨vs[i]'(by omega), ?_⟩
    simp only [World.cell?, h]
    rw [List.getElem?_toArray, List.getElem?_append_right (by omega), hk, Nat.add_sub_cancel_left, List.getElem?_eq_getElem (by omega)]; rfl
  have hfz : X.frozen? ⟨g, n + i, none⟩ = false := by
    have h := HB.out.1.2.1
    simp [World.frozen?, h]
  have HB2 : Hid (Bld w1 (X.setCell ⟨g, n + i, none⟩ (.slice av nv cv)) b g n (ks ++ vs.set i (.slice av nv cv))) := by
    refine HB.out.next (Keeps.cell _) ?_ (by simp)
    have h := heap_setCell_same X g (n + i) (ks ++ vs).toArray 22 (.slice av nv cv) HB.out.1.2.1
    rw [h]
    congr 2
    have hk := HK.out
    rw [List.setIfInBounds_toArray, List.set_append_right _ _ (by omega), hk, Nat.add_sub_cancel_left]
  clear HB
  go_wp2
  go_ret3
  exact ⟨b, g, rfl, HB2.out⟩

end Go.Proofs.YbulkbgzmFmt
