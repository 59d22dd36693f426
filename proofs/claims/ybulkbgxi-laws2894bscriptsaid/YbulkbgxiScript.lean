/-
  'LawS2894BScript': THE WALK.
-/
import Derived.Test.YbulkbgxiScriptPlain
import Derived.Deep.QuietTactic
import Derived.BigQuiet
namespace Go.Proofs.Ybulkbgxi
open Go.RowKit

theorem info4 : (Yba.prog.info? 4).map (fun i => (i.zero, i.size, i.bytes)) = some (some (.bool false), 1, 1) := by kernel_rfl

theorem build_sized (m : Nat) (hn : m < 300) (w : World) :
    Calls Yba.prog 7 #[.int .i64 ((m : Int) + 1)] w fun e w' => e = .returned (.tuple #[.slice (some ⟨w.heap.size, 0, none⟩) (m + 1) (m + 1), .slice (some ⟨w.heap.size + 1, 0, none⟩) (m + 1) (m + 1)]) ∧
      Rds w' w.heap.size (m + 1) some id ∧ Below w.heap.size w w' ∧ w'.heap.size = w.heap.size + 2 + (m + 1) := by
  have h := build_walk (m + 1) (by omega) w
  rw [show (((m + 1 : Nat) : Int)) = (m : Int) + 1 from by omega] at h
  exact h.mono fun e w' ⟨h1, h2, h3⟩ => ⟨h1, h2.rds, h3, h2.1⟩

set_option maxRecDepth 100000 in
set_option maxHeartbeats 1000000 in
theorem script_core (n0 M len cap : Nat) (a1 : Option Addr) (b off : Nat) (zs : List Nat) (w : World) (hn0 : n0 < 65536) (hM : M < 300) (em : (n0 : Int) % 300 = (M : Int)) (hlen : len ≤ 400)
    (hz : ∀ j, j < len → zs.getD j 0 < 65536) (ha : 0 < len → a1 = some ⟨b, off, none⟩) (hcells : ∀ j, j < len → w.cell? ⟨b, off + j, none⟩ = some (.int .u16 (zs.getD j 0))) :
    Calls Yba.prog 4 #[.int .u16 n0, .slice a1 len cap] w fun e w' => e = .returned (.bool true) ∧ Below w.heap.size w w' := by
  have hmk := run_make_row' (P := Yba.prog) 45 4 (.bool false) 1 Yba.underlying45 info4 rfl .i64 .i64 (M + 1) (by omega) (by omega)
  rw [show (((M + 1 : Nat) : Int)) = (M : Int) + 1 from by omega] at hmk
  have hg : ¬ (400 : Int) < (len : Int) := by omega
  have HA : Hid (0 < len → a1 = some ⟨b, off, none⟩) := ha
  have HC : Hid (∀ j, j < len → w.cell? ⟨b, off + j, none⟩ = some (.int .u16 (zs.getD j 0))) := hcells
  have HZ : Hid (∀ j, j < len → zs.getD j 0 < 65536) := hz
  clear ha hcells hz
  go_enter Yba.func4, Yba.ntmps4
  go_wp2_with fail
  refine (build_sized M hM _).mono ?_
  rintro e w1 ⟨rfl, hR, hb1, hs1⟩
  have hS : Sc w (w1.alloc (.cells (madeCells #[.bool false] (M + 1)) 4)) w.heap.size w1.heap.size (M + 1) some id (fun _ => false) :=
    ⟨hR.alloc _, World.rowIs_made w1 (.bool false) (M + 1) 4, hb1.alloc hb1.size _, by omega⟩
  have HS : Hid (Sc w (w1.alloc (.cells (madeCells #[.bool false] (M + 1)) 4)) w.heap.size w1.heap.size (M + 1) some id (fun _ => false)) := hS
  clear hS hR hb1 hs1 em
  go_wp2_with fail
  generalize w1.heap.size = D at *
  generalize w1.alloc (.cells (madeCells #[.bool false] (M + 1)) 4) = w2 at *
  go_loopw [9, 10, 11] (fun cnt cur sv wr => ∃ (sN m c : Nat) (P : Nat → Option Nat) (pl : Nat → Nat) (R : Nat → Bool), sN ≤ len ∧ sv = .int .i64 sN ∧ cnt = .int .i64 c ∧ cur = .slice (some ⟨w.heap.size, 0, none⟩) m (M + 1) ∧
      Hid (Ok (M + 1) m c P pl R) ∧ Hid (Sc w wr w.heap.size D (M + 1) P pl R)) (fun _ _ sv _ => len - (intOf sv).toNat)
  case atStart => exact ⟨0, M + 1, 0, some, id, fun _ => false, Nat.zero_le _, rfl, rfl, rfl, Ok.start _, HS⟩
  case round =>
    obtain ⟨sN, m, c, P, pl, R, hsN, rfl, rfl, rfl, HOk, HSc⟩ := hrel
    clear HS
    have hmc : m + c = M + 1 := HOk.out.1
    by_cases hlt : sN < len
    · cases m with
      | zero =>
        go_wp2_with fail
        clear hmk
        go_loop [16] (fun i => i = .int .i64 0) (fun _ => 0)
        case atStart => rfl
        case round =>
          subst hrel
          go_wp2
          go_ret
          exact ⟨rfl, HSc.out.2.2.1.alloc HSc.out.2.2.1.size _⟩
      | succ m =>
        obtain ⟨v, hv⟩ : ∃ v, zs.getD sN 0 = v := ⟨_, rfl⟩
        have hv6 : v < 65536 := by rw [← hv]; exact HZ.out sN hlt
        have hcell : wr.cell? ⟨b, off + sN, none⟩ = some (.int .u16 v) := by
          have h := HC.out sN hlt
          rw [hv] at h
          exact (HSc.out.2.2.1.cell (World.block_lt_of_cell? _ _ h)).trans h
        have haS : a1 = some ⟨b, off, none⟩ := HA.out (by omega)
        obtain ⟨k, hk⟩ : ∃ k, v % (m + 1) = k := ⟨_, rfl⟩
        have hkm : k ≤ m := by have := Nat.mod_lt v (show 0 < m + 1 by omega); omega
        have ek : (v : Int) % ((m : Int) + 1) = (k : Int) := by rw [← hk]; exact (Int.natCast_emod v (m + 1)).symm
        clear hv hk
        obtain ⟨i, hi, hPk, hpi, hRi⟩ := HOk.out.2 k (by omega)
        obtain ⟨l, hl, hPl, hpl, hRl⟩ := HOk.out.2 m (by omega)
        have hck : wr.cell? ⟨w.heap.size, k, none⟩ = some (rd w.heap.size i) := by rw [HSc.out.1.at k (by omega), hPk]; rfl
        have hcp : wr.cell? ⟨w.heap.size + 2 + i, 14, none⟩ = some (.int .i64 k) := by rw [HSc.out.1.place i hi, hpi]
        have hpi' : Hid (pl i = k) := hpi
        have hPl' : Hid (P m = some l) := hPl
        have hPk' : Hid (P k = some i) := hPk
        have hRi' : Hid (R i = false) := hRi
        clear hpi hPl hPk hRi hpl hRl
        go_wp2_with fail
        clear hcell hck hcp haS
        go_loopw [9, 14] (fun cnt jv wx => ∃ j cj : Nat, j ≤ M + 1 ∧ jv = .int .i64 j ∧ cnt = .int .i64 cj ∧ Hid (cj = cntTo c i j) ∧ Hid (Sc w wx w.heap.size D (M + 1) P pl (markTo R i j))) (fun _ jv _ => M + 1 - (intOf jv).toNat)
        case atStart => exact ⟨0, c, Nat.zero_le _, rfl, rfl, rfl, HSc.out.congr (markTo_zero R i)⟩
        case round =>
          clear HSc
          obtain ⟨j, cj, hj, rfl, rfl, Hcj, HS2⟩ := hrel
          have hcb : cj ≤ c + 1 := by rw [Hcj.out]; exact cntTo_le _ _ _
          by_cases hjn : j < M + 1
          · have hjn' : (j : Int) < (M : Int) + 1 := by omega
            have ho : wr.cell? ⟨w.heap.size + 1, j, none⟩ = some (rd w.heap.size j) := HS2.out.1.orig j hjn
            by_cases eji : i = j
            · subst eji
              have hrm : wr.cell? ⟨D, i, none⟩ = some (.bool false) := by rw [HS2.out.2.1.cell hjn, markTo_at, hRi'.out]
              have hfz : wr.frozen? ⟨D, i, none⟩ = false := HS2.out.2.1.frozen _
              have heq := fun (w : World) (a : Addr) => eql_same a w
              go_wp2
              go_roundw
              case rel => exact ⟨i + 1, cj + 1, by omega, by go_num, by go_num, (by rw [cntTo_hit, ← Hcj.out] : cj + 1 = cntTo c i (i + 1)), (HS2.out.mark i).congr (markTo_hit R i)⟩
              case measure => simp [intOf]; omega
            · have heq : (binOp .eql 27 (rd w.heap.size j) (rd w.heap.size i)).run Yba.prog wr = .ok (.bool false) wr := HS2.out.1.eql_ne hjn hi (fun e => eji e.symm)
              go_wp2
              go_roundw
              case rel => exact ⟨j + 1, cj, by omega, by go_num, rfl, (by rw [cntTo_miss c i j eji]; exact Hcj.out : cj = cntTo c i (j + 1)), HS2.out.congr (fun x => markTo_miss R i j x eji)⟩
              case measure => simp [intOf]; omega
          · have ej : j = M + 1 := by omega
            subst ej
            have hc1 : cj = c + 1 := by rw [Hcj.out]; exact cntTo_end c i (M + 1) hi
            have HC1 : Hid (cj = c + 1) := hc1
            clear hc1
            have hge : ¬ ((M : Int) + 1) < (M : Int) + 1 := by omega
            have HS3 : Hid (Sc w wr w.heap.size D (M + 1) P pl (fun x => if x = i then true else R x)) := HS2.out.congr (fun x => markTo_end R i (M + 1) x hi)
            clear HS2
            go_wp2_with fail
            refine (without_full w.heap.size (M + 1) m i k l P pl _ HS3.out.1 (by omega) (by omega) hi hl hPl'.out hpi'.out hkm).mono ?_
            rintro e w3 ⟨rfl, hR3, hb3, hD3⟩
            have HO3 : Hid (Ok (M + 1) m (c + 1) (fun x => if x = m then none else if x = k then some l else P x) (fun y => if y = l then k else pl y) (fun x => if x = i then true else R x)) := HOk.out.step hkm hPk'.out hPl'.out
            have HS4 : Hid (Sc w w3 w.heap.size D (M + 1) (fun x => if x = m then none else if x = k then some l else P x) (fun y => if y = l then k else pl y) (fun x => if x = i then true else R x)) :=
              ⟨hR3, hD3 _ _ _ _ HS3.out.2.2.2 HS3.out.2.1, HS3.out.2.2.1.trans hb3, HS3.out.2.2.2⟩
            clear hR3 hb3 hD3 HS3 HOk
            go_wp2
            go_roundw
            case rel => exact ⟨sN + 1, m, c + 1, _, _, _, by omega, by go_num, by rw [HC1.out], rfl, HO3, HS4⟩
            case measure => simp [intOf]; omega
    · go_wp2_with fail
      have HF : Hid (Fin w (wr.alloc (.cells (madeCells #[.bool false] (M + 1)) 4)) w.heap.size D wr.heap.size (M + 1) P pl R (fun _ => false)) := Fin.start HSc.out HSc.out.2.2.1.size
      clear hmk HSc
      generalize wr.alloc (.cells (madeCells #[.bool false] (M + 1)) 4) = w4 at *
      generalize wr.heap.size = E at *
      go_loopw [16] (fun iv wx => ∃ (iN : Nat) (S : Nat → Bool), iN ≤ m ∧ iv = .int .i64 iN ∧ Hid (SeenTo P S iN) ∧ Hid (Fin w wx w.heap.size D E (M + 1) P pl R S)) (fun iv _ => m - (intOf iv).toNat)
      case atStart => exact ⟨0, fun _ => false, Nat.zero_le _, rfl, fun x hx => by simp at hx, HF⟩
      case round =>
        clear HF
        obtain ⟨iN, S, hiN, rfl, HSn, HF⟩ := hrel
        by_cases hlt : iN < m
        · obtain ⟨x, hx, hPx, hpx, hRx⟩ := HOk.out.2 iN hlt
          have hc1 : wr.cell? ⟨w.heap.size, iN, none⟩ = some (rd w.heap.size x) := by rw [HF.out.1.1.at iN (by omega), hPx]; rfl
          have hc2 : wr.cell? ⟨w.heap.size + 2 + x, 14, none⟩ = some (.int .i64 iN) := by rw [HF.out.1.1.place x hx, hpx]
          have HPx : Hid (P iN = some x) := hPx
          have HRx : Hid (R x = false) := hRx
          have HSx : Hid (S x = false) := HSn.out.not HOk.out hlt hPx
          clear hPx hpx hRx
          go_wp2_with fail
          clear hc2
          go_loopw [17, 18] (fun fv jv wx => ∃ j : Nat, j ≤ M + 1 ∧ jv = .int .i64 j ∧ fv = .bool (decide (x < j)) ∧ Hid (Fin w wx w.heap.size D E (M + 1) P pl R (markTo S x j))) (fun _ jv _ => M + 1 - (intOf jv).toNat)
          case atStart => exact ⟨0, Nat.zero_le _, rfl, by simp, HF.out.congr (markTo_zero S x)⟩
          case round =>
            clear HF hc1
            obtain ⟨j, hj, rfl, rfl, HF⟩ := hrel
            by_cases hjn : j < M + 1
            · have hjn' : (j : Int) < (M : Int) + 1 := by omega
              have ho : wr.cell? ⟨w.heap.size + 1, j, none⟩ = some (rd w.heap.size j) := HF.out.1.1.orig j hjn
              have hc1 : wr.cell? ⟨w.heap.size, iN, none⟩ = some (rd w.heap.size x) := by rw [HF.out.1.1.at iN (by omega), HPx.out]; rfl
              by_cases exj : x = j
              · subst exj
                have hrm : wr.cell? ⟨D, x, none⟩ = some (.bool false) := by rw [HF.out.1.2.1.cell hjn, HRx.out]
                have hsn : wr.cell? ⟨E, x, none⟩ = some (.bool false) := by rw [HF.out.2.1.cell hjn, markTo_at, HSx.out]
                have hfz : wr.frozen? ⟨E, x, none⟩ = false := HF.out.2.1.frozen _
                have heq := fun (w : World) (a : Addr) => eql_same a w
                go_wp2
                go_quiet (fail)
                go_wp2
                go_roundw
                case rel => exact ⟨x + 1, by omega, by go_num, by simp, ((HF.out.mark x).congr (markTo_hit S x)).drewN _⟩
                case measure => simp [intOf]; omega
              · have heq : ∀ q, (binOp .eql 27 (rd w.heap.size j) (rd w.heap.size x)).run Yba.prog (wr.drewN q) = .ok (.bool false) (wr.drewN q) := fun q => (HF.out.drewN q).1.1.eql_ne hjn hx (fun e => exj e.symm)
                have heq0 : (binOp .eql 27 (rd w.heap.size j) (rd w.heap.size x)).run Yba.prog wr = .ok (.bool false) wr := HF.out.1.1.eql_ne hjn hx (fun e => exj e.symm)
                go_wp2
                go_quiet (fail)
                go_wp2
                go_roundw
                case rel => exact ⟨j + 1, by omega, by go_num, by congr 1; simp; omega, (HF.out.congr (fun y => markTo_miss S x j y exj)).drewN _⟩
                case measure => simp [intOf]; omega
            · have ej : j = M + 1 := by omega
              subst ej
              have hge : ¬ ((M : Int) + 1) < (M : Int) + 1 := by omega
              have hxt : decide (x < M + 1) = true := by simpa using hx
              have HF2 : Hid (Fin w wr w.heap.size D E (M + 1) P pl R (fun y => if y = x then true else S y)) := HF.out.congr (fun y => markTo_end S x (M + 1) y hx)
              clear HF
              go_wp2
              go_roundw
              case rel => exact ⟨iN + 1, _, by omega, by go_num, HSn.out.step HPx.out, HF2⟩
              case measure => simp [intOf]; omega
        · go_wp2
          go_ret
          exact ⟨rfl, HF.out.1.2.2.1⟩

theorem script_long (n0 len cap : Nat) (a1 : Option Addr) (w : World) (hlen : 400 < len) (hbig : len ≤ 9223372036854775807) :
    Calls Yba.prog 4 #[.int .u16 n0, .slice a1 len cap] w fun e w' => e = .returned (.bool true) ∧ Below w.heap.size w w' := by
  have hg : (400 : Int) < (len : Int) := by omega
  go_enter Yba.func4, Yba.ntmps4
  go_wp2
  go_ret
  exact ⟨rfl, Below.refl _ _⟩

end Go.Proofs.Ybulkbgxi
