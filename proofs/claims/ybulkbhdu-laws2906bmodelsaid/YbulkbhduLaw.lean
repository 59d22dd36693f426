/-
  'LawS2906BModel': the walk.
-/
import Derived.Test.YbulkbhduArr
import Derived.Deep.CutBlock
namespace Go.Proofs.Ybulkbhdu
open Go.RowKit
set_option linter.unusedVariables false

/-- A []int8 that came in: its elements by index. -/
def RowI8 (w : World) (a : Option Addr) (len : Nat) (z : Nat → Int) : Prop :=
  len = 0 ∨ ∃ g o, a = some ⟨g, o, none⟩ ∧ g < w.heap.size ∧ ∀ i, i < len → w.cell? ⟨g, o + i, none⟩ = some (.int .i8 (z i)) ∧ -128 ≤ z i ∧ z i ≤ 127

/-- What lies while the law runs. -/
def Has (w X : World) (Z : Int) (cnt : Nat → Int) (lo : Int) : Prop := HashAt X w.heap.size Z cnt lo ∧ Below w.heap.size w X ∧ w.heap.size < X.heap.size

theorem Has.keep {w X Y : World} {Z lo : Int} {cnt : Nat → Int} (h : Has w X Z cnt lo) (hb : Below X.heap.size X Y) : Has w Y Z cnt lo :=
  ⟨h.1.other (hb.block _ h.2.2), h.2.1.trans (hb.mono (Nat.le_of_lt h.2.2)), Nat.lt_of_lt_of_le h.2.2 hb.size⟩
theorem Has.drewN {w X : World} {Z lo : Int} {cnt : Nat → Int} (h : Has w X Z cnt lo) (m : Nat) : Has w (X.drewN m) Z cnt lo := ⟨h.1.other rfl, h.2.1.trans ⟨rfl, rfl, rfl, Nat.le_refl _, fun _ _ => rfl⟩, h.2.2⟩

set_option maxRecDepth 100000 in
set_option maxHeartbeats 4000000 in
theorem law_core (A : Nat) (a1 : Option Addr) (len cap : Nat) (z : Nat → Int) (S : Int) (T : Nat) (w : World) (hA : A < 256) (hT : T < 256) (hlen : len ≤ 9223372036854775807) (hS : 0 ≤ S ∧ S < 18446744073709551616) (hz : RowI8 w a1 len z) :
    Calls Yba.prog 3 #[.int .u8 A, .slice a1 len cap, .int .u64 S, .int .u8 T] w fun e w' => e = .returned (.bool true) ∧ Below w.heap.size w w' := by
  have HZ : Hid (RowI8 w a1 len z) := hz
  clear hz
  obtain ⟨st, hst, hst30⟩ : ∃ st : Nat, Int.tmod (A : Int) 31 = st ∧ st ≤ 30 := ⟨A % 31, by rw [Int.tmod_eq_emod_of_nonneg (by omega)]; omega, by omega⟩
  go_enter Yba.func3, Yba.ntmps3
  go_wp2_with fail
  refine (new_any w).mono ?_
  rintro e W0 ⟨C, hC, rfl, rfl⟩
  have HH : Hid (Has w (w.alloc (.cells C 35)) 0 (fun _ => 0) 0) := ⟨⟨C, (MapKept.heap_alloc w _).1, hC⟩, (Below.refl _ _).alloc (Nat.le_refl _) _, by simp⟩
  clear hC
  generalize w.alloc (.cells C 35) = W0 at *
  clear C
  have c1 : W0.cell? ⟨w.heap.size, 2067, none⟩ = some (.int .i64 0) := HH.out.1.lo
  have f1 : W0.frozen? ⟨w.heap.size, 2067, none⟩ = false := HH.out.1.free _
  have HH1 : Hid (Has w (W0.setCell ⟨w.heap.size, 2067, none⟩ (.int .i64 st)) 0 (fun _ => 0) st) := ⟨HH.out.1.setLo, HH.out.2.1.setCell (p := ⟨w.heap.size, 2067, none⟩) (Nat.le_refl _) _, by have := HH.out.2.2; simpa [World.setCell] using this⟩
  clear HH
  go_upto_block 0 with (fail)
  generalize W0.setCell ⟨w.heap.size, 2067, none⟩ (.int .i64 st) = W1 at *
  clear c1 f1
  go_cut [11] (fun _ wx => ∃ cnt, Hid (Has w wx 0 cnt st))
  case first =>
    go_wp2_with fail
    go_loopw [11] (fun iv wr => ∃ i : Nat, i ≤ len ∧ st + i ≤ 31 ∧ iv = .int .i64 i ∧ ∃ cnt, Hid (Has w wr 0 cnt st)) (fun iv _ => len - (intOf iv).toNat)
    case atStart => exact ⟨0, Nat.zero_le _, by omega, rfl, _, HH1⟩
    case round =>
      clear HH1
      obtain ⟨i, hi, hi31, rfl, cnt, HX⟩ := hrel
      by_cases hlt : i < len
      · by_cases hle : st + i ≤ 30
        · obtain ⟨g, o, rfl, hg, hcells⟩ : ∃ g o, a1 = some ⟨g, o, none⟩ ∧ g < w.heap.size ∧ ∀ i, i < len → w.cell? ⟨g, o + i, none⟩ = some (.int .i8 (z i)) ∧ -128 ≤ z i ∧ z i ≤ 127 := by
            rcases HZ.out with h | h
            · omega
            · exact h
          obtain ⟨hc, hz1, hz2⟩ := hcells i hlt
          have c1 : wr.cell? ⟨g, o + i, none⟩ = some (.int .i8 (z i)) := (HX.out.2.1.cell hg).trans hc
          have c2 : wr.cell? ⟨w.heap.size, 2035 + (st + 1 + i), none⟩ = some (.int .i64 (cnt (st + 1 + i))) := HX.out.1.count _ (by omega)
          have f2 : wr.frozen? ⟨w.heap.size, 2035 + (st + 1 + i), none⟩ = false := HX.out.1.free _
          have HN : Hid (Has w (wr.setCell ⟨w.heap.size, 2035 + (st + 1 + i), none⟩ (.int .i64 (32 + z i))) 0 (fun j => if j = st + 1 + i then 32 + z i else cnt j) st) :=
            ⟨HX.out.1.setCount _ (by omega), HX.out.2.1.setCell (p := ⟨w.heap.size, 2035 + (st + 1 + i), none⟩) (Nat.le_refl _) _, by have := HX.out.2.2; simpa [World.setCell] using this⟩
          clear hc hcells HX
          go_upto_region 7 with (fail)
          go_region
          go_wp2
          go_roundw
          case rel => exact ⟨i + 1, by omega, by omega, by go_num, _, HN.out.drewN 1⟩
          case measure => simp [intOf]; omega
        · go_wp2
          go_meet
          case rel => exact ⟨cnt, HX⟩
      · go_wp2
        go_meet
        case rel => exact ⟨cnt, HX⟩
  case rest =>
    obtain ⟨cnt, HX⟩ := hcut
    clear HH1 HZ
    have c1 : wc.cell? ⟨w.heap.size, 0, none⟩ = some (.int .u64 0) := HX.out.1.size
    have f1 : wc.frozen? ⟨w.heap.size, 0, none⟩ = false := HX.out.1.free _
    have hZ : 0 ≤ IntKind.u64.wrap (S * 2 ^ (T % 40)) ∧ IntKind.u64.wrap (S * 2 ^ (T % 40)) < 18446744073709551616 := by
      rw [IntKind.wrap_u64]
      exact ⟨Int.emod_nonneg _ (by omega), Int.emod_lt_of_pos _ (by omega)⟩
    have HX2 : Hid (Has w (wc.setCell ⟨w.heap.size, 0, none⟩ (.int .u64 (IntKind.u64.wrap (S * 2 ^ (T % 40))))) (IntKind.u64.wrap (S * 2 ^ (T % 40))) cnt st) :=
      ⟨HX.out.1.setSize, HX.out.2.1.setCell (p := ⟨w.heap.size, 0, none⟩) (Nat.le_refl _) _, by have := HX.out.2.2; simpa [World.setCell] using this⟩
    clear HX
    go_upto_block 2 with (fail)
    generalize wc.setCell ⟨w.heap.size, 0, none⟩ (.int .u64 (IntKind.u64.wrap (S * 2 ^ (T % 40)))) = X at *
    generalize IntKind.u64.wrap (S * 2 ^ (T % 40)) = Z at *
    clear c1 f1 wc
    go_cut [12] (fun wv wx => wx = X ∧ ∃ want : Nat, wv = .int .i64 want ∧ st ≤ want ∧ want ≤ 30 ∧ Hid (∀ j, st ≤ j → j < want → ¬ Must cnt Z j) ∧ Hid (want = 30 ∨ Must cnt Z want))
    case first =>
      go_wp2_with fail
      go_loopw [12] (fun wv wr => wr = X ∧ ∃ want : Nat, wv = .int .i64 want ∧ st ≤ want ∧ want ≤ 30 ∧ Hid (∀ j, st ≤ j → j < want → ¬ Must cnt Z j)) (fun wv _ => 30 - (intOf wv).toNat)
      case atStart => exact ⟨rfl, st, rfl, Nat.le_refl _, hst30, fun j h1 h2 => absurd h2 (by omega)⟩
      case round =>
        obtain ⟨rfl, k, rfl, hk1, hk2, HN⟩ := hrel
        have hpk := pow_le k hk2
        have hw : IntKind.u64.wrap (192 * 2 ^ k) = 192 * 2 ^ k := by simp [IntKind.wrap, IntKind.signed, IntKind.bits]; omega
        by_cases hk30 : k = 30
        · subst hk30
          go_wp2
          go_meet
          case rel => exact ⟨rfl, 30, rfl, hk1, hk2, HN, .inl rfl⟩
        · have c2 : wr.cell? ⟨w.heap.size, 2035 + (k + 1), none⟩ = some (.int .i64 (cnt (k + 1))) := HX2.out.1.count _ (by omega)
          have c0 : wr.cell? ⟨w.heap.size, 0, none⟩ = some (.int .u64 Z) := HX2.out.1.size
          by_cases hC : cnt (k + 1) < 32
          · have HM : Hid (Must cnt Z k) := .inl hC
            go_wp2
            go_meet
            case rel => exact ⟨rfl, k, rfl, hk1, hk2, HN, .inr HM.out⟩
          · by_cases hD : Z ≤ 192 * 2 ^ k
            · have HM : Hid (Must cnt Z k) := .inr hD
              go_wp2
              go_meet
              case rel => exact ⟨rfl, k, rfl, hk1, hk2, HN, .inr HM.out⟩
            · have HN2 : Hid (∀ j, st ≤ j → j < k + 1 → ¬ Must cnt Z j) := fun j h1 h2 => by
                by_cases e : j = k
                · subst e; unfold Must; omega
                · exact HN.out j h1 (by omega)
              go_wp2
              go_roundw
              case rel => exact ⟨by first | rfl | trivial, k + 1, by go_num, by omega, by omega, HN2⟩
              case measure => simp [intOf]; omega
    case rest =>
      obtain ⟨rfl, want, rfl, hw1, hw2, HN, HM⟩ := hcut
      have L1 : Hid ((Instr.loadAt 31 (.pointer (some ⟨w.heap.size, 2035, none⟩))).run Yba.prog wc = .ok (.agg (cntA cnt)) wc) := load31 HX2.out.1.cntLie (cntA_ints cnt)
      have I1 : Hid (Ints .i64 32 (cntA cnt)) := cntA_ints cnt
      have LK : Hid (∀ Y lo, HashAt Y w.heap.size Z cnt lo → Lie Y w.heap.size 2035 (cntA cnt)) := fun Y lo h => h.cntLie
      generalize cntA cnt = K at *
      go_upto_region 13 with (fail)
      go_upto_region 14 with (first | (refine wpList_load_is rfl 31 (.tmp 86) rfl (.pointer (some ⟨w.heap.size, 2035, none⟩)) (.agg K) rfl L1.out ?_) | (refine wpList_store_new wc _ 31 rfl (.tmp 13) (.tmp 87) rfl K rfl rfl (by rw [I1.out.1]; kernel_rfl) (by rw [I1.out.1]; rfl) I1.out.one ?_; intro Y1 hb1 hh1))
      have HX3 : Hid (Has w Y1 Z cnt st) := HX2.out.keep hb1
      have hg1 : w.heap.size < wc.heap.size := HX2.out.2.2
      have hg1' : wc.heap.size < Y1.heap.size := lt_of_block hh1
      have HB1 : Hid (Y1.heap[wc.heap.size]? = some (.cells K 31 (0, 0))) := hh1
      clear L1 HX2 hb1 hh1
      generalize wc.heap.size = G1 at *
      have c0 : Y1.cell? ⟨w.heap.size, 0, none⟩ = some (.int .u64 Z) := HX3.out.1.size
      have c1 : Y1.cell? ⟨w.heap.size, 2068, none⟩ = some (.int .i64 31) := HX3.out.1.hi
      have L2 : Hid ((Instr.loadAt 28 (.pointer (some ⟨w.heap.size, 11, none⟩))).run Yba.prog Y1 = .ok (.agg pA) Y1) := load28 HX3.out.1.pLie pA_ints
      have I2 : Hid (Ints .u64 4 pA) := pA_ints
      have LP : Hid (∀ Y lo, HashAt Y w.heap.size Z cnt lo → Lie Y w.heap.size 11 pA ∧ Lie Y w.heap.size 15 pA) := fun Y lo h => ⟨h.pLie, h.qLie⟩
      generalize pA = PA at *
      go_upto_region 17 with (first | (refine wpList_load_is rfl 28 (.tmp 98) rfl (.pointer (some ⟨w.heap.size, 11, none⟩)) (.agg PA) rfl L2.out ?_) | (refine wpList_store_new Y1 _ 28 rfl (.tmp 16) (.tmp 99) rfl PA rfl rfl (by rw [I2.out.1]; kernel_rfl) (by rw [I2.out.1]; rfl) I2.out.one ?_; intro Y2 hb2 hh2))
      have HX4 : Hid (Has w Y2 Z cnt st) := HX3.out.keep hb2
      have hg2 : w.heap.size < Y1.heap.size := HX3.out.2.2
      have hg2' : Y1.heap.size < Y2.heap.size := lt_of_block hh2
      have HB2 : Hid (Y2.heap[Y1.heap.size]? = some (.cells PA 28 (0, 0))) := hh2
      have HB1' : Hid (Y2.heap[G1]? = some (.cells K 31 (0, 0))) := (hb2.block G1 hg1').trans HB1.out
      clear L2 HX3 hb2 hh2 c0 c1 HB1
      generalize Y1.heap.size = G2 at *
      have L3 : Hid ((Instr.loadAt 28 (.pointer (some ⟨w.heap.size, 15, none⟩))).run Yba.prog Y2 = .ok (.agg PA) Y2) := load28 (LP.out Y2 _ HX4.out.1).2 I2.out
      go_upto_region 18 with (first | (refine wpList_load_is rfl 28 (.tmp 102) rfl (.pointer (some ⟨w.heap.size, 15, none⟩)) (.agg PA) rfl L3.out ?_) | (refine wpList_store_new Y2 _ 28 rfl (.tmp 17) (.tmp 103) rfl PA rfl rfl (by rw [I2.out.1]; kernel_rfl) (by rw [I2.out.1]; rfl) I2.out.one ?_; intro Y3 hb3 hh3))
      have HX5 : Hid (Has w Y3 Z cnt st) := HX4.out.keep hb3
      have hg3 : w.heap.size < Y2.heap.size := HX4.out.2.2
      have HB3 : Hid (Y3.heap[Y2.heap.size]? = some (.cells PA 28 (0, 0))) := hh3
      have HB2' : Hid (Y3.heap[G2]? = some (.cells PA 28 (0, 0))) := (hb3.block G2 hg2').trans HB2.out
      have HB1'' : Hid (Y3.heap[G1]? = some (.cells K 31 (0, 0))) := (hb3.block G1 (by omega)).trans HB1'.out
      clear L3 HX4 hb3 hh3 HB2 HB1'
      generalize Y2.heap.size = G3 at *
      go_wp2_with fail
      refine (forget_any w.heap.size st want Z cnt Y3 HX5.out.1 hZ hw1 hw2 HN.out HM.out).mono ?_
      rintro e Y4 ⟨rfl, hh4, hs4⟩
      have HH4 : Hid (HashAt Y4 w.heap.size Z cnt want ∧ Below w.heap.size w Y4) := ⟨hh4, hs4.below HX5.out.2.1 (Nat.le_refl _)⟩
      have E1 : Hid (Lie Y4 G1 0 K) := Lie.new ((hs4.2.2.2.2 G1 (by omega)).trans HB1''.out)
      have E2 : Hid (Lie Y4 G2 0 PA) := Lie.new ((hs4.2.2.2.2 G2 (by omega)).trans HB2'.out)
      have E3 : Hid (Lie Y4 G3 0 PA) := Lie.new ((hs4.2.2.2.2 G3 (by omega)).trans HB3.out)
      clear hh4 hs4 HX5 HB1'' HB2' HB3 HN
      go_upto_region 19 with (fail)
      have Q1 : Hid (∀ W, (∃ n, W = Y4.drewN n) → (Instr.loadAt 31 (.pointer (some ⟨w.heap.size, 2035, none⟩))).run Yba.prog W = .ok (.agg K) W) := by
        rintro W ⟨n, rfl⟩; exact load31 (LK.out (Y4.drewN n) _ (HH4.out.1.other rfl)) I1.out
      have Q2 : Hid (∀ W, (∃ n, W = Y4.drewN n) → (Instr.loadAt 31 (.pointer (some ⟨G1, 0, none⟩))).run Yba.prog W = .ok (.agg K) W) := by
        rintro W ⟨n, rfl⟩; exact load31 (X := Y4.drewN n) E1.out I1.out
      have Q3 : Hid (∀ W, (∃ n, W = Y4.drewN n) → (Instr.loadAt 28 (.pointer (some ⟨w.heap.size, 11, none⟩))).run Yba.prog W = .ok (.agg PA) W) := by
        rintro W ⟨n, rfl⟩; exact load28 (LP.out (Y4.drewN n) _ (HH4.out.1.other rfl)).1 I2.out
      have Q4 : Hid (∀ W, (∃ n, W = Y4.drewN n) → (Instr.loadAt 28 (.pointer (some ⟨G2, 0, none⟩))).run Yba.prog W = .ok (.agg PA) W) := by
        rintro W ⟨n, rfl⟩; exact load28 (X := Y4.drewN n) E2.out I2.out
      have Q5 : Hid (∀ W, (∃ n, W = Y4.drewN n) → (Instr.loadAt 28 (.pointer (some ⟨w.heap.size, 15, none⟩))).run Yba.prog W = .ok (.agg PA) W) := by
        rintro W ⟨n, rfl⟩; exact load28 (LP.out (Y4.drewN n) _ (HH4.out.1.other rfl)).2 I2.out
      have Q6 : Hid (∀ W, (∃ n, W = Y4.drewN n) → (Instr.loadAt 28 (.pointer (some ⟨G3, 0, none⟩))).run Yba.prog W = .ok (.agg PA) W) := by
        rintro W ⟨n, rfl⟩; exact load28 (X := Y4.drewN n) E3.out I2.out
      have N1 : ∀ W : World, (binOp .neq 31 (.agg K) (.agg K)).run Yba.prog W = .ok (.bool false) W := neq31 K I1.out
      have N2 : ∀ W : World, (binOp .neq 28 (.agg PA) (.agg PA)).run Yba.prog W = .ok (.bool false) W := neq28 PA I2.out
      have c1 : Y4.cell? ⟨w.heap.size, 2067, none⟩ = some (.int .i64 want) := HH4.out.1.lo
      have c2 : Y4.cell? ⟨w.heap.size, 0, none⟩ = some (.int .u64 Z) := HH4.out.1.size
      have c3 : Y4.cell? ⟨w.heap.size, 2068, none⟩ = some (.int .i64 31) := HH4.out.1.hi
      have HH5 : Hid (∀ n, HashAt (Y4.drewN n) w.heap.size Z cnt want ∧ Below w.heap.size w (Y4.drewN n)) := fun n => ⟨HH4.out.1.other rfl, HH4.out.2.trans ⟨rfl, rfl, rfl, Nat.le_refl _, fun _ _ => rfl⟩⟩
      clear HH4 E1 E2 E3 LK LP I1 I2
      refine wp_region_quiet_lit (by kernel_rfl) (by kernel_rfl) ?_
      repeat (first
        | go_big_quiet_skip
        | (go_big_quiet_want
           first
             | (refine quiet_load_is 31 (.tmp 115) rfl _ _ rfl Q1.out ?_; go_simp; go_big_quiet_on)
             | (refine quiet_load_is 31 (.tmp 13) rfl _ _ rfl Q2.out ?_; go_simp; go_big_quiet_on)
             | (refine quiet_load_is 28 (.tmp 139) rfl _ _ rfl Q3.out ?_; go_simp; go_big_quiet_on)
             | (refine quiet_load_is 28 (.tmp 16) rfl _ _ rfl Q4.out ?_; go_simp; go_big_quiet_on)
             | (refine quiet_load_is 28 (.tmp 147) rfl _ _ rfl Q5.out ?_; go_simp; go_big_quiet_on)
             | (refine quiet_load_is 28 (.tmp 17) rfl _ _ rfl Q6.out ?_; go_simp; go_big_quiet_on)
             | (go_big_quiet_op; go_big_quiet_on)))
      refine wpQuiet_nil ?_
      intro _ hw'
      obtain ⟨nq, hw''⟩ := hw'
      subst hw''
      have HH6 : Hid (HashAt (Y4.drewN nq) w.heap.size Z cnt want ∧ Below w.heap.size w (Y4.drewN nq)) := HH5.out nq
      clear HH5 Q1 Q2 Q3 Q4 Q5 Q6 N1 N2 c1 c2 c3
      generalize Y4.drewN nq = Y5 at *
      clear nq
      go_wp2_with fail
      refine (forget_any w.heap.size want want Z cnt Y5 HH6.out.1 hZ (Nat.le_refl _) hw2 (fun j h1 h2 => absurd h2 (by omega)) HM.out).mono ?_
      rintro e Y6 ⟨rfl, hh6, hs6⟩
      have c1 : Y6.cell? ⟨w.heap.size, 2067, none⟩ = some (.int .i64 want) := hh6.lo
      have HE : Hid (Below w.heap.size w Y6) := hs6.below HH6.out.2 (Nat.le_refl _)
      clear hh6 hs6 HH6 HM
      go_wp2
      go_ret
      exact ⟨by simp, HE.out⟩

/-- The shell's own form of the argument, opened. -/
theorem rowI8 {w : World} {a : Option Addr} {len cap : Nat} {zs : List Int}
    (h : (a = none ∧ len = 0 ∧ cap = 0 ∧ zs = []) ∨ ∃ x, a = some x ∧ len ≤ cap ∧ cap ≤ maxLen ∧ zs.length = cap ∧ (∀ i, i < zs.length → w.cell? (x.add i) = some (.int .i8 (zs.getD i 0))) ∧ ∀ n ∈ zs, (Lit.int .i8 n).wf = true) :
    len ≤ 9223372036854775807 ∧ RowI8 w a len (fun i => zs.getD i 0) := by
  rcases h with ⟨_, h0, _⟩ | ⟨x, rfl, hl, hm, hz, hc, hw⟩
  · exact ⟨by omega, .inl h0⟩
  · refine ⟨by unfold maxLen at hm; omega, ?_⟩
    by_cases h0 : len = 0
    · exact .inl h0
    · have h1 := hc 0 (by omega)
      obtain ⟨b, o, sp⟩ := x
      have hsp : sp = none := by
        cases sp with
        | none => rfl
        | some y =>
          rw [show (⟨b, o, some y⟩ : Addr).add 0 = ⟨b, o, some y⟩ by unfold Addr.add; rw [if_pos rfl]] at h1
          simp only [World.cell?] at h1
          split at h1 <;> simp at h1
      subst hsp
      refine .inr ⟨b, o, rfl, ?_, fun i hi => ?_⟩
      · rw [Addr.add_mid] at h1; exact World.block_lt_of_cell? _ _ h1
      · have h2 := hc i (by omega)
        rw [Addr.add_mid] at h2
        have h3 := hw (zs.getD i 0) (by
          have hi' : i < zs.length := by omega
          rw [List.getD_eq_getElem?_getD, List.getElem?_eq_getElem hi']
          exact List.getElem_mem hi')
        simp only [Lit.wf, IntKind.min, IntKind.max, IntKind.signed, IntKind.bits, Bool.and_eq_true, decide_eq_true_eq] at h3
        refine ⟨h2, ?_, ?_⟩
        · have := h3.1; simpa using this
        · have := h3.2; simpa using this

end Go.Proofs.Ybulkbhdu
