/-
  'decodeBytes' BY A CONTRACT.
-/
import Derived.Test.YbulkbgzmFmtAppend
import Derived.Deep.RegionLaw
namespace Go.Proofs.YbulkbgzmFmt
open Go.RowKit

/-- append as one step of a region that draws its order. -/
theorem step_append_step {P : Program} {ops : Array Oper} {o : Oper} {a : Act} {w : World} {K : Act → World → Prop} {Q : Exit → Act → World → Prop} {E : Prop} (hgd : o.guard = none) (s x : Operand) (t : TypeId)
    (ho : o.op = .call { callee := .builtin .append, args := #[s, x], argTypes := #[t, t] })
    (base : Nat) (e : TypeId) (i : TypeInfo) (z : Value) (size bytes : Nat) (ht : P.underlying t = some (.slice e)) (hi : P.info? e = some i) (hz : i.zero = some z)
    (hsize : i.size = size) (hby : i.bytes = bytes) (hzs : z.cells.size = size) (hsz : 0 < size)
    (v : Value) (n : Nat) (xs : List Value) (hs : a.eval s = v) (hown : w.ownsRow base e size v n xs)
    (src : Option Addr) (m c : Nat) (news : List Value) (hx : a.eval x = .slice src m c) (hnone : src = none → m = 0 ∧ c = 0) (hl : news.length = m * size) (hnews : ∀ ad, src = some ad → ∀ j u, news[j]? = some u → w.cell? (ad.add j) = some u) (h1 : ∀ u ∈ news, u.oneCell' = true)
    (h63 : n + m ≤ maxLen) (hbytes : (n + m) * bytes ≤ 140737488355328) (hbase : base ≤ w.heap.size)
    (h : ∀ v' w', w'.ownsRow base e size v' (n + m) (xs ++ news) → w.grownBy w' v.ownBlock → (v' = .slice none 0 0 ↔ v = .slice none 0 0 ∧ m = 0) → Lies w v v' → K (a.put o.dst v') w') :
    if Region.wanted o (yielded ops a.tmps) = true then Oper.wp P o a w K Q else E := by
  have hw : Region.wanted o (yielded ops a.tmps) = true := by simp [Region.wanted, hgd]
  rw [if_pos hw]
  obtain ⟨v', w', hr, h2, h3, h4, h5⟩ := run_append_step (P := P) w base t o.type e i z size bytes ht hi hz hsize hby hzs hsz v n xs hown src m c news hnone hl hnews h1 h63 hbytes hbase
  unfold Oper.wp execOp
  simp only [ho, resolve, invoke, builtin, Sem.run_bind, Sem.run_pure, Result.andThen_ok, List.map_toArray, List.map_cons, List.map_nil, hs, hx, hr]
  exact h v' w' h2 h3 h4 h5

theorem empty_owned (w : World) : (w.alloc (.cells #[] 5)).drew.ownsRow w.heap.size 5 1 (.slice (some ⟨w.heap.size, 0, none⟩) 0 0) 0 [] :=
  (World.ownsRow_made (e := 5) (size := 1) (base := w.heap.size) w #[] 0 (Nat.le_refl _) (Nat.zero_le _) rfl).drew

theorem below_of_grown {w w2 : World} {o : Obj} (hg : (w.alloc o).drew.grownBy w2 (some w.heap.size)) : Below w.heap.size w w2 := by
  have h1 : Below w.heap.size w (w.alloc o).drew := ((Below.refl _ _).alloc (Nat.le_refl _) o).drew
  exact h1.grown hg h1.size (fun k hk => by simp at hk; omega)

theorem bytes_one (l : List UInt8) : ∀ u ∈ Lib.byteCells l, u.oneCell' = true := by
  intro u hu
  obtain ⟨_, _, rfl⟩ := List.mem_map.1 hu
  rfl

set_option maxRecDepth 100000 in
set_option maxHeartbeats 800000 in
/-- The good road, at a slice with an address: p bytes of length, s bytes, r bytes left. -/
theorem decodeBytes_core (b o p s r d : Nat) (l : List UInt8) (w : World) (h : BytesAt w (some ⟨b, o, none⟩) (p + (s + r)) l) (hrd : r ≤ d) (hn : p + (s + r) ≤ 1099511627776)
    (e2 : (Lib.uvarintDec l).2 = (p : Int)) (e1 : (Lib.uvarintDec l).1 = s) (hp : 0 < p) :
    Calls Ybaf.prog 14 #[.slice (some ⟨b, o, none⟩) (p + (s + r)) (p + (s + d))] w fun e w' => ∃ vk o', e = .returned (.tuple #[vk, .slice (some ⟨b, o', none⟩) r d, .nilIface]) ∧
      w'.ownsRow w.heap.size 5 1 vk s (Lib.byteCells ((l.drop p).take s)) ∧ vk ≠ .slice none 0 0 ∧ (∀ X, BytesAt X (some ⟨b, o, none⟩) (p + (s + r)) l → BytesAt X (some ⟨b, o', none⟩) r ((l.drop p).drop s)) ∧ Below w.heap.size w w' := by
  obtain ⟨i0, hi, hz0, hz1, hz2⟩ := info_parts info5
  have hlen := h.len
  have H1 : Hid (BytesAt w (some ⟨b, o + p, none⟩) s ((l.drop p).take s)) := h.piece p s (by omega)
  have H2 : Hid (∀ X, BytesAt X (some ⟨b, o, none⟩) (p + (s + r)) l → BytesAt X (some ⟨b, o + p + s, none⟩) r ((l.drop p).drop s)) := by
    intro X h
    have h3 := h.piece (p + s) r (by omega)
    rw [List.drop_drop]
    rw [show o + p + s = o + (p + s) from by omega]
    rw [List.take_of_length_le (by simp; omega)] at h3
    exact h3
  have HL : Hid (l.length = p + (s + r)) := hlen
  have HU := uvarint_any (c := p + (s + d)) h
  rw [e1, e2] at HU
  clear h e1 e2 hlen
  have h1c : Hid (∀ u ∈ Lib.byteCells ((l.drop p).take s), u.oneCell' = true) := bytes_one _
  have hl1 : Hid ((Lib.byteCells ((l.drop p).take s)).length = s * 1) := by
    show (Lib.byteCells ((l.drop p).take s)).length = s * 1
    rw [Lib.byteCells_length, H1.out.len]; omega
  obtain ⟨news, hnews⟩ : ∃ news, news = Lib.byteCells ((l.drop p).take s) := ⟨_, rfl⟩
  rw [← hnews] at h1c hl1
  have HN : Hid (news = Lib.byteCells ((l.drop p).take s)) := hnews
  clear hnews
  have hp0 : ¬ ((p : Int) ≤ 0) := by omega
  have hcl : Hid (∀ ad, some (⟨b, o + p, none⟩ : Addr) = some ad → ∀ j u, news[j]? = some u → ((w.alloc (.cells #[] 5)).drew).cell? (ad.add j) = some u) := by
    rw [HN.out]; exact fun ad had j u hj => (H1.out.alloc (.cells #[] 5)).cells ad had j u hj
  have hown : Hid ((w.alloc (.cells #[] 5)).drew.ownsRow w.heap.size 5 1 (.slice (some ⟨w.heap.size, 0, none⟩) 0 0) 0 []) := empty_owned w
  have hsr : (s : Int) ≤ (s : Int) + (r : Int) := by omega
  have hsd : (s : Int) ≤ (s : Int) + (d : Int) := by omega
  have HE : Hid ([] ++ news = Lib.byteCells ((l.drop p).take s)) := HN.out
  by_cases hcp : s + d = 0
  · obtain rfl : s = 0 := by omega
    obtain rfl : d = 0 := by omega
    obtain rfl : r = 0 := by omega
    go_enter Ybaf.func14, Ybaf.ntmps14
    go_wp2_with fail
    refine HU.mono ?_
    rintro e w1 ⟨rfl, rfl⟩
    clear HU
    go_wp2
    go_region_law (refine step_append_step rfl (.tmp 27) (.tmp 30) 22 rfl w1.heap.size 5 i0 (.int .u8 0) 1 1 Ybaf.underlying22 hi hz0 hz1 hz2 rfl (by decide) (.slice (some ⟨w1.heap.size, 0, none⟩) 0 0) 0 [] (by simp [Act.eval]) hown.out (some ⟨b, o, none⟩) 0 0 [] (by simp [Act.eval]) (fun h => by cases h) rfl (fun ad _ j u hj => by simp at hj) (fun u hu => by simp at hu) (by unfold maxLen; omega) (by omega) (by simp) ?_; intro v' w2 hv hg hnil hli)
    clear hcl h1c hl1 hown
    go_wp2
    go_ret3
    refine ⟨v', _, rfl, ?_, (fun e => by simpa using hnil.1 e), (fun X _ => ⟨by simp; have := HL.out; omega, .inl rfl⟩), below_of_grown hg⟩
    simpa [Lib.byteCells] using hv
  · by_cases hcs : d = 0
    · subst hcs
      obtain rfl : r = 0 := by omega
      go_enter Ybaf.func14, Ybaf.ntmps14
      go_wp2_with fail
      refine HU.mono ?_
      rintro e w1 ⟨rfl, rfl⟩
      clear HU
      go_wp2
      go_region_law (refine step_append_step rfl (.tmp 27) (.tmp 30) 22 rfl w1.heap.size 5 i0 (.int .u8 0) 1 1 Ybaf.underlying22 hi hz0 hz1 hz2 rfl (by decide) (.slice (some ⟨w1.heap.size, 0, none⟩) 0 0) 0 [] (by simp [Act.eval]) hown.out (some ⟨b, o + p, none⟩) s s news (by simp [Act.eval]) (fun h => by cases h) hl1.out hcl.out h1c.out (by unfold maxLen; omega) (by omega) (by simp) ?_; intro v' w2 hv hg hnil hli)
      clear hcl h1c hl1 hown
      go_wp2
      go_ret3
      refine ⟨v', _, rfl, ?_, (fun e => by simpa using hnil.1 e), (fun X _ => ⟨by simp; have := HL.out; omega, .inl rfl⟩), below_of_grown hg⟩
      rw [Nat.zero_add, HE.out] at hv
      exact hv
    · go_enter Ybaf.func14, Ybaf.ntmps14
      go_wp2_with fail
      refine HU.mono ?_
      rintro e w1 ⟨rfl, rfl⟩
      clear HU
      go_wp2
      go_region_law (refine step_append_step rfl (.tmp 27) (.tmp 30) 22 rfl w1.heap.size 5 i0 (.int .u8 0) 1 1 Ybaf.underlying22 hi hz0 hz1 hz2 rfl (by decide) (.slice (some ⟨w1.heap.size, 0, none⟩) 0 0) 0 [] (by simp [Act.eval]) hown.out (some ⟨b, o + p, none⟩) s (s + d) news (by simp [Act.eval]) (fun h => by cases h) hl1.out hcl.out h1c.out (by unfold maxLen; omega) (by omega) (by simp) ?_; intro v' w2 hv hg hnil hli)
      clear hcl h1c hl1 hown
      go_wp2
      go_ret3
      refine ⟨v', _, rfl, ?_, (fun e => by simpa using hnil.1 e), H2.out, below_of_grown hg⟩
      rw [Nat.zero_add, HE.out] at hv
      exact hv

end Go.Proofs.YbulkbgzmFmt
