/-
  encoding/binary.AppendUvarint BY A CONTRACT that says where the new slice lies.
-/
import Derived.Test.YbulkbgzmFmtMem
namespace Go.Proofs.YbulkbgzmFmt
open Go.RowKit

theorem info5 : (Ybaf.prog.info? 5).map (fun i => (i.zero, i.size, i.bytes)) = some (some (.int .u8 0), 1, 1) := by kernel_rfl

theorem grown_trans {w wr w1 : World} {sv vb : Value} (hg : w.grownBy wr sv.ownBlock) (hL : Lies w sv vb) (hg1 : wr.grownBy w1 vb.ownBlock) : w.grownBy w1 sv.ownBlock := by
  refine ⟨hg1.os.trans hg.os, hg1.tape.trans hg.tape, hg1.output.trans hg.output, Nat.le_trans hg.size hg1.size, fun k hk hne => ?_⟩
  refine (hg1.block k (Nat.lt_of_lt_of_le hk hg.size) (fun e => ?_)).trans (hg.block k hk hne)
  rcases hL with h | ⟨g, h, hlt⟩
  · exact hne (e.trans h)
  · rw [h] at e; simp at e; omega
theorem grown_alloc {w wr : World} {sv : Value} (hg : w.grownBy wr sv.ownBlock) (o : Obj) : w.grownBy (wr.alloc o) sv.ownBlock :=
  hg.trans (World.grownBy_alloc wr o _)
theorem Lies.trans {w wr : World} {sv vb v' : Value} (hL : Lies w sv vb) (hs : w.heap.size ≤ wr.heap.size) (hL1 : Lies wr vb v') : Lies w sv v' := by
  rcases hL1 with h | ⟨g, h, hlt⟩
  · rcases hL with h2 | ⟨g, h2, hlt⟩
    · exact .inl (h.trans h2)
    · exact .inr ⟨g, h.trans h2, hlt⟩
  · exact .inr ⟨g, h, by omega⟩

set_option maxRecDepth 100000 in
set_option maxHeartbeats 800000 in
theorem appendUvarint_any (B n x : Nat) (hx : x < 18446744073709551616) (sv : Value) (xs : List Value) (w : World) (hown : w.ownsRow B 5 1 sv n xs) (hBw : B ≤ w.heap.size) (hlim : n + 10 ≤ 140737488355328) :
    Calls Ybaf.prog 9 #[sv, .int .u64 x] w fun e w' => ∃ v', e = .returned v' ∧ w'.ownsRow B 5 1 v' (n + (Lib.uvarint x).length) (xs ++ Lib.byteCells (Lib.uvarint x)) ∧ w.grownBy w' sv.ownBlock ∧ Lies w sv v' := by
  obtain ⟨i0, hi, hz0, hz1, hz2⟩ := info_parts info5
  have hlen := Lib.uvarint_length64 hx
  go_enter Ybaf.func9, Ybaf.ntmps9
  go_wp2
  go_loopw [0, 1] (fun vb vx wr => ∃ (y : Nat) (pre : List UInt8), vx = .int .u64 y ∧ y ≤ x ∧ Lib.uvarint x = pre ++ Lib.uvarint y ∧ wr.ownsRow B 5 1 vb (n + pre.length) (xs ++ Lib.byteCells pre) ∧ w.grownBy wr sv.ownBlock ∧ Lies w sv vb)
    (fun _ vx _ => (intOf vx).toNat)
  case atStart => exact ⟨x, [], rfl, Nat.le_refl _, rfl, by simpa [Lib.byteCells] using hown, World.grownBy.refl _ _, .inl rfl⟩
  case round =>
    obtain ⟨y, pre, rfl, hy, hsplit, hown1, hnx, hli⟩ := hrel
    have hpl : pre.length + (Lib.uvarint y).length ≤ 10 := by
      have h2 := congrArg List.length hsplit
      rw [List.length_append] at h2
      omega
    have hyp := Lib.uvarint_pos y
    by_cases h128 : 128 ≤ y
    · have hor : bits .or .u8 ((y : Int) % 256) 128 = ((y % 128 + 128 : Nat) : Int) := by
        rw [Lib.u8_or128_any _ (by omega) (by omega)]
        omega
      go_wp2_with (at_builtin; refine wpList_append_step _ rfl _ _ 22 rfl B 5 i0 (.int .u8 0) 1 1 Ybaf.underlying22 hi hz0 hz1 hz2 rfl (by decide) _ _ _ rfl (hown1.alloc _) (some ⟨wr.heap.size, 0, none⟩) 1 1 [Value.int .u8 ((y % 128 + 128 : Nat) : Int)] rfl (fun h => by cases h) rfl ?c1 ?c2 ?c3 ?c4 ?c5 ?_)
      case c1 =>
        intro ad had j u hj
        obtain rfl := Option.some.inj had
        match j, hj with
        | 0, hj => simp at hj; subst hj; simp [Addr.add]
      case c2 => intro u hu; simp at hu; subst hu; rfl
      case c3 => unfold maxLen; omega
      case c4 => omega
      case c5 => have := hnx.size; simp; omega
      intro v' w1 hown' hgrow _ hli'
      have hnx1 := grown_trans (grown_alloc hnx _) hli hgrow
      have hli1 := hli.trans (by have := hnx.size; simp; omega) hli'
      clear hnx hli hgrow hli'
      go_wp2
      go_roundw
      case rel =>
        refine ⟨y / 128, pre ++ [(y % 128 + 128).toUInt8], by go_num, by omega, by rw [hsplit, Lib.uvarint_big h128]; simp, ?_, hnx1, hli1⟩
        have ec : ((y % 128 + 128 : Nat) : Int) = (y : Int) % 128 + 128 := by omega
        rw [Lib.byteCells_snoc pre (by omega), List.length_append, List.length_singleton, ← Nat.add_assoc, ec]
        exact hown'
      case measure => simp [intOf]; omega
    · have hsm : Lib.uvarint y = [y.toUInt8] := Lib.uvarint_small (by omega)
      go_wp2_with (at_builtin; refine wpList_append_step _ rfl _ _ 22 rfl B 5 i0 (.int .u8 0) 1 1 Ybaf.underlying22 hi hz0 hz1 hz2 rfl (by decide) _ _ _ rfl (hown1.alloc _) (some ⟨wr.heap.size, 0, none⟩) 1 1 [Value.int .u8 (y : Int)] rfl (fun h => by cases h) rfl ?c1 ?c2 ?c3 ?c4 ?c5 ?_)
      case c1 =>
        intro ad had j u hj
        obtain rfl := Option.some.inj had
        match j, hj with
        | 0, hj => simp at hj; subst hj; simp [Addr.add]
      case c2 => intro u hu; simp at hu; subst hu; rfl
      case c3 => unfold maxLen; omega
      case c4 => omega
      case c5 => have := hnx.size; simp; omega
      intro v' w1 hown' hgrow _ hli'
      have hnx1 := grown_trans (grown_alloc hnx _) hli hgrow
      have hli1 := hli.trans (by have := hnx.size; simp; omega) hli'
      clear hnx hli hgrow hli'
      go_wp2
      go_ret
      refine ⟨v', rfl, ?_, hnx1, hli1⟩
      rw [hsplit, hsm, Lib.byteCells_snoc pre (by omega), List.length_append, List.length_singleton, ← Nat.add_assoc]
      exact hown'

end Go.Proofs.YbulkbgzmFmt
