/-
  CScript: the law.
-/
import Derived.Test.YbulkbgzmFmtCsW
namespace Go.Proofs.YbulkbgzmFmt
open Go.RowKit Go.Stop
set_option linter.unusedVariables false
attribute [local simp] kvs_app vvs_app kns_app cont_app odd_app kvs_cons vvs_cons kns_cons cont_cons odd_cons kvs_nil vvs_nil kns_nil cont_nil odd_nil kvs_len vvs_len kns_len

theorem start_inv (w : World) (S : Obj) (A1 A2 A3 : List Value) (h1 : A1.length = 40) (h2 : A2.length = 40) (h3 : A3.length = 40) (f1 : ∀ j, j < 40 → A1[j]? = some (.bool false)) (f2 : ∀ j, j < 40 → A2[j]? = some (.bool false)) (f3 : ∀ j, j < 40 → A3[j]? = some (.string ⟨#[]⟩)) :
    LInv w ((((((w.alloc S).alloc (.map #[] 0)).alloc (.cells #[.pointer (some ⟨w.heap.size, 0, none⟩), .pointer none, .pointer none, .pointer none, .map (some (w.heap.size + 1))] 59)).alloc (.cells A1.toArray 60)).alloc (.cells A2.toArray 60)).alloc (.cells A3.toArray 61))
      (w.heap.size + 1 + 1) (w.heap.size + 1) (w.heap.size + 1 + 1 + 1) (w.heap.size + 1 + 1 + 1 + 1) (w.heap.size + 1 + 1 + 1 + 1 + 1) ⟨w.heap.size, 0, none⟩ 0 := by
  have al : ∀ (X : World) (o : Obj), Below X.heap.size X (X.alloc o) := fun X o => (Below.refl _ _).alloc (Nat.le_refl _) _
  have sz : ∀ (X : World) (o : Obj), (X.alloc o).heap.size = X.heap.size + 1 := fun X o => by simp
  have nw : ∀ (X : World) (o : Obj) (m : Nat), X.heap.size = m → (X.alloc o).heap[m]? = some o := fun X o m e => by subst e; exact (MapKept.heap_alloc X o).1
  obtain ⟨X1, e1⟩ : ∃ X1, w.alloc S = X1 := ⟨_, rfl⟩
  rw [e1]
  have s1 : X1.heap.size = w.heap.size + 1 := by rw [← e1, sz]
  have b1 : Below w.heap.size w X1 := by rw [← e1]; exact al w S
  have hM : MapE (X1.alloc (.map #[] 0)) (w.heap.size + 1) 0 (fun _ => false) := by
    have h := World.ownsMap_made (H := Unit) X1 Ybaf.prog 9 unitElem
    rw [s1] at h
    refine ⟨_, h, fun kl => ?_⟩
    constructor
    · intro e; cases e
    · rintro ⟨k, -, e, -⟩; cases e
  obtain ⟨X2, e2⟩ : ∃ X2, X1.alloc (.map #[] 0) = X2 := ⟨_, rfl⟩
  rw [e2] at hM ⊢
  have s2 : X2.heap.size = w.heap.size + 1 + 1 := by rw [← e2, sz, s1]
  have b2 : Below w.heap.size w X2 := b1.trans (by rw [← e2]; exact (al X1 _).mono b1.size)
  have hS : Sess (X2.alloc (.cells #[.pointer (some ⟨w.heap.size, 0, none⟩), .pointer none, .pointer none, .pointer none, .map (some (w.heap.size + 1))] 59)) (w.heap.size + 1 + 1) ⟨w.heap.size, 0, none⟩ (.pointer none) (w.heap.size + 1) := nw X2 _ _ s2
  have hM3 := hM.below (al X2 (.cells #[.pointer (some ⟨w.heap.size, 0, none⟩), .pointer none, .pointer none, .pointer none, .map (some (w.heap.size + 1))] 59))
  obtain ⟨X3, e3⟩ : ∃ X3, X2.alloc (.cells #[.pointer (some ⟨w.heap.size, 0, none⟩), .pointer none, .pointer none, .pointer none, .map (some (w.heap.size + 1))] 59) = X3 := ⟨_, rfl⟩
  rw [e3] at hS hM3 ⊢
  have s3 : X3.heap.size = w.heap.size + 1 + 1 + 1 := by rw [← e3, sz, s2]
  have b3 : Below w.heap.size w X3 := b2.trans (by rw [← e3]; exact (al X2 _).mono b2.size)
  have hA1 : ArrAt (X3.alloc (.cells A1.toArray 60)) (w.heap.size + 1 + 1 + 1) 60 (fun _ => .bool false) := ⟨A1, h1, nw X3 _ _ s3, f1⟩
  have hS4 := hS.below (al X3 (.cells A1.toArray 60))
  have hM4 := hM3.below (al X3 (.cells A1.toArray 60))
  obtain ⟨X4, e4⟩ : ∃ X4, X3.alloc (.cells A1.toArray 60) = X4 := ⟨_, rfl⟩
  rw [e4] at hA1 hS4 hM4 ⊢
  have s4 : X4.heap.size = w.heap.size + 1 + 1 + 1 + 1 := by rw [← e4, sz, s3]
  have b4 : Below w.heap.size w X4 := b3.trans (by rw [← e4]; exact (al X3 _).mono b3.size)
  have hA2 : ArrAt (X4.alloc (.cells A2.toArray 60)) (w.heap.size + 1 + 1 + 1 + 1) 60 (fun _ => .bool false) := ⟨A2, h2, nw X4 _ _ s4, f2⟩
  have hA15 := hA1.other ((al X4 (.cells A2.toArray 60)).block _ hA1.lt)
  have hS5 := hS4.below (al X4 (.cells A2.toArray 60))
  have hM5 := hM4.below (al X4 (.cells A2.toArray 60))
  obtain ⟨X5, e5⟩ : ∃ X5, X4.alloc (.cells A2.toArray 60) = X5 := ⟨_, rfl⟩
  rw [e5] at hA2 hA15 hS5 hM5 ⊢
  have s5 : X5.heap.size = w.heap.size + 1 + 1 + 1 + 1 + 1 := by rw [← e5, sz, s4]
  have b5 : Below w.heap.size w X5 := b4.trans (by rw [← e5]; exact (al X4 _).mono b4.size)
  have hA3 : ArrAt (X5.alloc (.cells A3.toArray 61)) (w.heap.size + 1 + 1 + 1 + 1 + 1) 61 (fun _ => .string ⟨#[]⟩) := ⟨A3, h3, nw X5 _ _ s5, f3⟩
  refine ⟨none, [], fun _ => false, fun _ => false, fun _ => ⟨#[]⟩, ⟨hS5.below (al X5 _), .inl ⟨rfl, rfl⟩, hM5.below (al X5 _), hA15.other ((al X5 _).block _ hA15.lt), hA2.other ((al X5 _).block _ hA2.lt), hA3, b5.trans ((al X5 _).mono b5.size), by omega, by omega, by omega, by omega, by omega, by omega⟩, fun k b => ?_⟩
  simp

theorem rep40 (v : Value) : ∀ j, j < 40 → (List.replicate 40 v)[j]? = some v := fun j hj => by rw [List.getElem?_replicate, if_pos hj]

theorem val_bytes (X : World) (s : ByteArray) : ∃ c cs z, (convert 9 22 (.string s)).run Ybaf.prog X = .ok (.slice (some ⟨X.heap.size, 0, none⟩) s.size c) (X.drew.alloc (.cells cs 5 z)) ∧ BytesAt (X.drew.alloc (.cells cs 5 z)) (some ⟨X.heap.size, 0, none⟩) s.size s.data.toList := by
  have h := run_bytes_of_string (P := Ybaf.prog) X 9 22 5 s Ybaf.underlying9 Ybaf.underlying22 Ybaf.underlying5
  refine ⟨_, _, _, h, rfl, .inr ⟨_, 0, rfl, fun j hj => ?_⟩⟩
  have hb := (MapKept.heap_alloc X.drew (.cells (bytesRow s (grownCap X s.size 0 5)) 5 ((bytesRow s (grownCap X s.size 0 5)).size, (bytesRow s (grownCap X s.size 0 5)).size + 1))).1
  have hb' : (X.drew.alloc (.cells (bytesRow s (grownCap X s.size 0 5)) 5 ((bytesRow s (grownCap X s.size 0 5)).size, (bytesRow s (grownCap X s.size 0 5)).size + 1))).heap[X.heap.size]? = _ := hb
  simp only [World.cell?, hb', Nat.zero_add]
  have hj2 : j < s.data.size := by simpa using hj
  unfold bytesRow
  rw [Array.getElem?_append_left (by simpa using hj2), Array.getElem?_map, Array.getElem?_eq_getElem hj2]
  rfl

theorem key_new (X : World) {k : Nat} (hk : k < 40) : KeyAt (X.alloc (.cells #[.int .u8 107, .int .u8 (97 + (k : Int))] 5)) (.slice (some ⟨X.heap.size, 0, none⟩) 2 2) k := by
  refine ⟨_, 2, rfl, ⟨rfl, .inr ⟨X.heap.size, 0, rfl, fun j hj => ?_⟩⟩, hk, Nat.le_refl _⟩
  have hb := (MapKept.heap_alloc X (.cells #[.int .u8 107, .int .u8 (97 + (k : Int))] 5)).1
  simp only [World.cell?, hb, Nat.zero_add]
  have hj2 : j = 0 ∨ j = 1 := by have : j < 2 := hj; omega
  rcases hj2 with rfl | rfl
  · rfl
  · simp [keyB]
    omega

theorem box_sess {w Y w' : World} {sb mb wb pb vb n N : Nat} {st : Addr} {root : Option Addr} {L : List Ent} {Mf Wf Pf Mf' : Nat → Bool} {Vf : Nat → ByteArray} {P : List Ent → Prop} {c : Array Value} (h : All w Y sb mb wb pb vb st root L n Mf Wf Pf Vf) (hp : SessPost Y sb mb (n + 1) st Mf' P w') (hN : Y.heap[N]? = some (.cells c 63 (0, 0))) :
    ∃ root' L', P L' ∧ All w w' sb mb wb pb vb st root' L' (n + 1) Mf' Wf Pf Vf ∧ w'.heap[N]? = some (.cells c 63 (0, 0)) := by
  obtain ⟨root', L', h1, h2⟩ := h.sess hp
  obtain ⟨p', L2, s1, s2, s3, s4, s5⟩ := hp
  exact ⟨root', L', h1, h2, (s5.2.2.2.2 N (lt_of_block hN) (ne_types hN h.1 (by decide)) (h.2.2.1.ne (mb' := 0) hN)).trans hN⟩
theorem all_ne {w Y : World} {sb mb wb pb vb n N : Nat} {st : Addr} {root : Option Addr} {L : List Ent} {Mf Wf Pf : Nat → Bool} {Vf : Nat → ByteArray} {c : Array Value} (h : All w Y sb mb wb pb vb st root L n Mf Wf Pf Vf) (hN : Y.heap[N]? = some (.cells c 63 (0, 0))) :
    ¬ vb = pb ∧ ¬ wb = pb ∧ ¬ wb = vb ∧ ¬ N = pb ∧ ¬ pb = vb ∧ ¬ N = vb := by
  obtain ⟨c4, b4⟩ := h.2.2.2.1.block
  obtain ⟨c5, b5⟩ := h.2.2.2.2.1.block
  obtain ⟨c6, b6⟩ := h.2.2.2.2.2.1.block
  exact ⟨ne_types b6 b5 (by decide), h.2.2.2.2.2.2.2.2.2.2.2.2, ne_types b4 b6 (by decide), ne_types hN b5 (by decide), ne_types b5 b6 (by decide), ne_types hN b6 (by decide)⟩
theorem set_same (Wf : Nat → Bool) (k : Nat) : (fun j => Wf j || decide (j = k)) = fun j => if j = k then true else Wf j := by
  funext j
  by_cases e : j = k <;> simp [e]
theorem round_put {w w' : World} {sb mb wb pb vb n k : Nat} {st : Addr} {root : Option Addr} {L L' : List Ent} {Wf Pf : Nat → Bool} {Vf : Nat → ByteArray} {s : ByteArray} (h : All w w' sb mb wb pb vb st root L' n (fun j => Wf j || decide (j = k)) Wf Pf Vf) (hU : Upd L L' k s.data.toList) (hAg : Agree L Pf Vf) (hk : k < 40) :
    LInv w (((w'.setCell ⟨pb, k, none⟩ (.bool true)).setCell ⟨vb, k, none⟩ (.string s)).setCell ⟨wb, k, none⟩ (.bool true)) sb mb wb pb vb st n := by
  have h1 := ((h.pr k true).val k s).wr k true
  rw [set_same] at h1
  refine ⟨root, L', _, _, _, h1, ?_⟩
  have := hAg.put hk hU
  exact this
theorem round_del {w w' : World} {sb mb wb pb vb n k : Nat} {st : Addr} {root : Option Addr} {L L' : List Ent} {Wf Pf : Nat → Bool} {Vf : Nat → ByteArray} {s : ByteArray} (h : All w w' sb mb wb pb vb st root L' n (fun j => Wf j || decide (j = k)) Wf Pf Vf) (hU : Del L L' k) (hAg : Agree L Pf Vf) :
    LInv w (((w'.setCell ⟨pb, k, none⟩ (.bool false)).setCell ⟨vb, k, none⟩ (.string s)).setCell ⟨wb, k, none⟩ (.bool true)) sb mb wb pb vb st n := by
  have h1 := ((h.pr k false).val k s).wr k true
  rw [set_same] at h1
  exact ⟨root, L', _, _, _, h1, hAg.del hU⟩

/-- The ops seen so far. -/
def Cnt (G : List Gh) (k j : Nat) : Prop := ∃ G1 G2, G = G1 ++ G2 ∧ G1.length = j ∧ (∀ g ∈ G1, gk g < k) ∧ ∀ g ∈ G2, k ≤ gk g
theorem Cnt.skip {G : List Gh} {k j : Nat} (h : Cnt G k j) (hn : k ∉ G.map gk) : Cnt G (k + 1) j := by
  obtain ⟨G1, G2, rfl, h1, h2, h3⟩ := h
  refine ⟨G1, G2, rfl, h1, fun g hg => Nat.lt_succ_of_lt (h2 g hg), fun g hg => ?_⟩
  have := h3 g hg
  have hne : gk g ≠ k := fun e => hn (by rw [← e]; exact List.mem_map_of_mem (List.mem_append_right _ hg))
  omega
theorem Cnt.take {G : List Gh} {k j : Nat} (h : Cnt G k j) (hs : G.Pairwise (fun x y => gk x < gk y)) (hm : k ∈ G.map gk) : ∃ hj : j < G.length, gk G[j] = k ∧ Cnt G (k + 1) (j + 1) := by
  obtain ⟨G1, G2, rfl, rfl, h2, h3⟩ := h
  cases G2 with
  | nil =>
    obtain ⟨g, hg, e⟩ := List.mem_map.1 hm
    have := h2 g (by simpa using hg)
    omega
  | cons g G2 =>
    have hs2 := (List.pairwise_append.1 hs).2.1
    obtain ⟨a1, a2⟩ := List.pairwise_cons.1 hs2
    have hgk : gk g = k := by
      obtain ⟨g', hg', e⟩ := List.mem_map.1 hm
      have h0 := h3 g (List.mem_cons_self ..)
      rcases List.mem_append.1 hg' with hg' | hg'
      · have := h2 g' hg'; omega
      · rcases List.mem_cons.1 hg' with rfl | hg'
        · exact e
        · have := a1 g' hg'; omega
    refine ⟨by simp, ?_, G1 ++ [g], G2, by simp, by simp, fun x hx => ?_, fun x hx => ?_⟩
    · have e : (G1 ++ g :: G2)[G1.length]'(by simp) = g := by simp
      rw [e]; exact hgk
    · rcases List.mem_append.1 hx with hx | hx
      · have := h2 x hx; omega
      · obtain rfl := List.mem_singleton.1 hx
        omega
    · have := a1 x hx; omega
theorem Cnt.done {G : List Gh} {j : Nat} (h : Cnt G 40 j) (hk : ∀ g ∈ G, gk g < 40) : j = G.length := by
  obtain ⟨G1, G2, rfl, rfl, h2, h3⟩ := h
  cases G2 with
  | nil => simp
  | cons g G2 =>
    have := h3 g (List.mem_cons_self ..)
    have := hk g (by simp)
    omega
/-- A key's two bytes. -/
theorem key_cells {w : World} {v : Value} {k : Nat} (h : KeyAt w v k) : ∃ b o c, v = .slice (some ⟨b, o, none⟩) 2 c ∧ w.cell? ⟨b, o, none⟩ = some (.int .u8 107) ∧ w.cell? ⟨b, o + 1, none⟩ = some (.int .u8 (97 + (k : Int))) ∧ k < 40 := by
  obtain ⟨a, c, rfl, ⟨h1, h2 | ⟨b, o, rfl, hc⟩⟩, hk, -⟩ := h
  · omega
  · refine ⟨b, o, c, rfl, ?_, ?_, hk⟩
    · have h0 : 0 < (keyB k).length := by rw [keyB_len]; omega
      have := hc 0 h0
      exact this
    · have h1 : 1 < (keyB k).length := by rw [keyB_len]; omega
      have := hc 1 h1
      have e : (((keyB k)[1]'h1).toNat : Int) = 97 + (k : Int) := by simp [keyB]; omega
      rw [e] at this
      exact this
/-- What the second loop is told of op k. -/
theorem told_put {w : World} {L : List Ent} {g : Gh} {Pf : Nat → Bool} {Vf : Nat → ByteArray} (h : Tells w L g) (hA : Agree L Pf Vf) (hk : gk g < 40) (hp : Pf (gk g) = true) : ∃ a n c b, g.2.1 = .slice a n c ∧ g.2.2.1 = .bool false ∧ BytesAt w a n b ∧ Vf (gk g) = ⟨b.toArray⟩ := by
  rcases h with ⟨b, h1, ⟨a, n, c, e, h2⟩, h3⟩ | ⟨h1, -⟩
  · exact ⟨a, n, c, b, e, h3, h2, ((hA _ _).1 h1).2.2⟩
  · have := (hA (gk g) (Vf (gk g)).data.toList).2 ⟨hk, hp, rfl⟩
    obtain ⟨x, hx, e⟩ := mem_cont.1 this
    exact absurd (show key x = gk g by unfold key; rw [e]) (h1 x hx)
theorem told_del {w : World} {L : List Ent} {g : Gh} {Pf : Nat → Bool} {Vf : Nat → ByteArray} (h : Tells w L g) (hA : Agree L Pf Vf) (hp : Pf (gk g) = false) : g.2.1 = .slice none 0 0 ∧ g.2.2.1 = .bool true := by
  rcases h with ⟨b, h1, -⟩ | ⟨-, h⟩
  · have := ((hA _ _).1 h1).2.1
    rw [hp] at this
    cases this
  · exact h

set_option maxRecDepth 100000 in
set_option maxHeartbeats 8000000 in
theorem law_core (a : Option Addr) (n c : Nat) (w : World) (P : Nat → Bool) (K : Nat → UInt8) (V : Nat → ByteArray) {v1 v2 : Value} (hn : n ≤ 1024) (hin : n = 0 ∨ ∃ b off, a = some ⟨b, off, none⟩ ∧ InS w b off n P K V) (hg1 : w.cell? ⟨1, 0, none⟩ = some v1) (hg2 : w.cell? ⟨2, 0, none⟩ = some v2) :
    Calls Ybaf.prog 5 #[.slice a n c] w fun e w' => e = .returned (.bool true) ∧ Below w.heap.size w w' := by
  have h : ¬ (1024 : Int) < (n : Int) := by omega
  have hmm : ∀ w : World, (Instr.makeMap 56 none).run Ybaf.prog w = .ok (.map (some w.heap.size)) (w.alloc (.map #[] 0)) := fun w => rfl
  have HIn : Hid (n = 0 ∨ ∃ b off, a = some ⟨b, off, none⟩ ∧ InS w b off n P K V) := hin
  have HG : Hid (w.cell? ⟨1, 0, none⟩ = some v1 ∧ w.cell? ⟨2, 0, none⟩ = some v2) := ⟨hg1, hg2⟩
  clear hin hg1 hg2
  go_enter Ybaf.func5, Ybaf.ntmps5
  go_upto_region 7 with (fail)
  go_cut [3, 4, 5, 6, 7] from 15 to 22 (fun s x y z i wx => ∃ sb mb wb pb vb st, s = .pointer (some ⟨sb, 0, none⟩) ∧ x = .pointer (some ⟨wb, 0, none⟩) ∧ y = .pointer (some ⟨pb, 0, none⟩) ∧ z = .pointer (some ⟨vb, 0, none⟩) ∧ i = .int .i64 0 ∧ Hid (LInv w wx sb mb wb pb vb st 0))
  case first =>
    go_wp2_with fail
    go_meet
    refine ⟨w.heap.size + 1 + 1, w.heap.size + 1, w.heap.size + 1 + 1 + 1, w.heap.size + 1 + 1 + 1 + 1, w.heap.size + 1 + 1 + 1 + 1 + 1, ⟨w.heap.size, 0, none⟩, rfl, rfl, rfl, rfl, rfl, ?_⟩
    exact start_inv w _ _ _ _ rfl rfl rfl (rep40 _) (rep40 _) (rep40 _)
  case rest =>
    obtain ⟨sb, mb, wb, pb, vb, st, rfl, rfl, rfl, rfl, rfl, HI0⟩ := hcut
    clear hmm
    go_wp2
    go_loopw [7] (fun v wr => ∃ i : Nat, v = .int .i64 i ∧ i ≤ n ∧ Hid (LInv w wr sb mb wb pb vb st i)) (fun v wr => n - (intOf v).toNat)
    case atStart => exact ⟨0, rfl, Nat.zero_le _, HI0⟩
    case round =>
      obtain ⟨i, rfl, hi, HI⟩ := hrel
      clear HI0
      by_cases hlt : i < n
      · obtain ⟨b, off, rfl, hins⟩ : ∃ b off, a = some ⟨b, off, none⟩ ∧ InS w b off n P K V := by
          rcases HIn.out with h | h
          · omega
          · exact h
        obtain ⟨root, L, Wf, Pf, Vf, hA, hAg⟩ := HI.out
        have HA : Hid (All w wr sb mb wb pb vb st root L i Wf Wf Pf Vf) := hA
        have HAg : Hid (Agree L Pf Vf) := hAg
        obtain ⟨i0, i1, i2⟩ := hins i hlt
        have c0 := k1_of i0 hA.2.2.2.2.2.2.1
        have c1 := k1_of i1 hA.2.2.2.2.2.2.1
        have c2 := k1_of i2 hA.2.2.2.2.2.2.1
        have hltz : (i : Int) < (n : Int) := by omega
        clear hA hAg hins i0 i1 i2 HI HIn
        go_upto_region 11 with (fail)
        have HX : Hid (All w (wr.alloc (.cells #[.bool (P i), .int .u8 (K i).toNat, .string (V i)] 63)) sb mb wb pb vb st root L i Wf Wf Pf Vf ∧ (wr.alloc (.cells #[.bool (P i), .int .u8 (K i).toNat, .string (V i)] 63)).heap[wr.heap.size]? = some (.cells #[.bool (P i), .int .u8 (K i).toNat, .string (V i)] 63 (0, 0))) := ⟨HA.out.below ((Below.refl _ _).alloc (Nat.le_refl _) _), (MapKept.heap_alloc wr _).1⟩
        clear HA c0 c1 c2 hltz
        generalize wr.alloc (.cells #[.bool (P i), .int .u8 (K i).toNat, .string (V i)] 63) = X at *
        generalize wr.heap.size = N at *
        have b0 : X.cell? ⟨N, 0, none⟩ = some (.bool (P i)) := by have h := HX.out.2; simp [World.cell?, h]
        have b1 : X.cell? ⟨N, 1, none⟩ = some (.int .u8 (K i).toNat) := by have h := HX.out.2; simp [World.cell?, h]
        have b2 : X.cell? ⟨N, 2, none⟩ = some (.string (V i)) := by have h := HX.out.2; simp [World.cell?, h]
        by_cases hlen : 1024 < (V i).size
        · have hlz : (1024 : Int) < ((V i).size : Int) := by omega
          have hwi : IntKind.i64.wrap ((i : Int) + 1) = (i : Int) + 1 := IntWalk.i64_in _ ⟨by omega, by omega⟩
          have HE : Hid (LInv w X sb mb wb pb vb st (i + 1)) := ⟨root, L, Wf, Pf, Vf, HX.out.1.more (by omega), HAg.out⟩
          clear HX
          go_wp2
          go_roundw
          case rel => exact ⟨i + 1, rfl, by omega, HE⟩
          case measure => simp [intOf]; omega
        · have hlz : ¬ (1024 : Int) < ((V i).size : Int) := by omega
          obtain ⟨k, hk⟩ : ∃ k, (K i).toNat % 40 = k := ⟨_, rfl⟩
          have hk40 : k < 40 := by omega
          have hkz : ((K i).toNat : Int) % 40 = (k : Int) := by omega
          go_upto_region 12 with (fail)
          go_cut [9] from 37 to 40 (fun v wx => v = .int .i64 (k : Int) ∧ wx = X)
          case first =>
            go_wp2_with fail
            go_meet
            exact ⟨rfl, rfl⟩
          case rest =>
            obtain ⟨rfl, hwc⟩ := hcut
            have hwc := hwc.symm
            subst hwc
            clear b1 hkz
            go_upto_region 14 with (fail)
            have HY : Hid (All w (X.alloc (.cells #[.int .u8 107, .int .u8 (97 + (k : Int))] 5)) sb mb wb pb vb st root L i Wf Wf Pf Vf ∧ KeyAt (X.alloc (.cells #[.int .u8 107, .int .u8 (97 + (k : Int))] 5)) (.slice (some ⟨X.heap.size, 0, none⟩) 2 2) k ∧ (X.alloc (.cells #[.int .u8 107, .int .u8 (97 + (k : Int))] 5)).heap[N]? = some (.cells #[.bool (P i), .int .u8 (K i).toNat, .string (V i)] 63 (0, 0))) := ⟨HX.out.1.below ((Below.refl _ _).alloc (Nat.le_refl _) _), key_new X hk40, (((Below.refl _ _).alloc (Nat.le_refl _) _ : Below X.heap.size X _).block N (lt_of_block HX.out.2)).trans HX.out.2⟩
            clear HX b0 b2
            generalize X.alloc (.cells #[.int .u8 107, .int .u8 (97 + (k : Int))] 5) = Y at *
            generalize X.heap.size = kb at *
            have b0 : Y.cell? ⟨N, 0, none⟩ = some (.bool (P i)) := by have h := HY.out.2.2; simp [World.cell?, h]
            have b2 : Y.cell? ⟨N, 2, none⟩ = some (.string (V i)) := by have h := HY.out.2.2; simp [World.cell?, h]
            have HGY : Hid (Y.cell? ⟨1, 0, none⟩ = some v1 ∧ Y.cell? ⟨2, 0, none⟩ = some v2) := ⟨k1_of HG.out.1 HY.out.1.2.2.2.2.2.2.1, k1_of HG.out.2 HY.out.1.2.2.2.2.2.2.1⟩
            have hwi : IntKind.i64.wrap ((i : Int) + 1) = (i : Int) + 1 := IntWalk.i64_in _ ⟨by omega, by omega⟩
            have hkz : (k : Int) < 40 := by omega
            obtain ⟨pi, hpi⟩ : ∃ pi, P i = pi := ⟨_, rfl⟩
            rw [hpi] at b0
            cases pi with
            | true =>
              obtain ⟨cv, cs, z, hcv, hVB⟩ := val_bytes Y (V i)
              have HPut : Hid (Calls Ybaf.prog 10 #[.pointer (some ⟨sb, 0, none⟩), .slice (some ⟨kb, 0, none⟩) 2 2, .slice (some ⟨Y.heap.size, 0, none⟩) (V i).size cv] (Y.alloc (.cells cs 5 z)).drew fun e w' => e = .returned .nilIface ∧ Hid (∃ root' L', Upd L L' k (V i).data.toList ∧ All w w' sb mb wb pb vb st root' L' (i + 1) (fun j => Wf j || decide (j = k)) Wf Pf Vf ∧ w'.heap[N]? = some (.cells #[.bool (P i), .int .u8 (K i).toNat, .string (V i)] 63 (0, 0)))) := by
                have hbel : Below Y.heap.size Y (Y.alloc (.cells cs 5 z)).drew := ((Below.refl _ _).alloc (Nat.le_refl _) _).drew
                have hA := HY.out.1.below hbel
                have hN := (hbel.block N (lt_of_block HY.out.2.2)).trans HY.out.2.2
                exact (put_sess hA.1 hA.2.1 hA.2.2.1 (by omega) (HY.out.2.1.below hbel) hVB (fun h => by cases h) (by omega) (k1_of HGY.out.1 hbel) (k1_of HGY.out.2 hbel)).mono fun e w' ⟨he, hp⟩ => ⟨he, box_sess hA hp.out hN⟩
              clear hVB
              go_wp2_with fail
              refine HPut.out.mono ?_
              rintro e w' ⟨rfl, HP⟩
              obtain ⟨root', L', hU, hA', hN'⟩ := HP.out
              have p0 := (hA'.2.2.2.2.1.cell hk40).1
              have p1 := (hA'.2.2.2.2.1.cell hk40).2
              have q0 := (hA'.2.2.2.2.2.1.cell hk40).1
              have q1 := (hA'.2.2.2.2.2.1.cell hk40).2
              have r0 := (hA'.2.2.2.1.cell hk40).1
              have r1 := (hA'.2.2.2.1.cell hk40).2
              have b2' : w'.cell? ⟨N, 2, none⟩ = some (.string (V i)) := by simp [World.cell?, hN']
              obtain ⟨n1, n2, n3, n4, n5, n6⟩ := all_ne hA' hN'
              have HE : Hid (LInv w (((w'.setCell ⟨pb, k, none⟩ (.bool true)).setCell ⟨vb, k, none⟩ (.string (V i))).setCell ⟨wb, k, none⟩ (.bool true)) sb mb wb pb vb st (i + 1)) := round_put hA' hU HAg.out hk40
              clear hU hA' hN' HP HPut HY HAg
              go_wp2
              go_roundw
              case rel => exact ⟨i + 1, rfl, by omega, HE⟩
              case measure => simp [intOf]; omega
            | false =>
              have HDel : Hid (Calls Ybaf.prog 11 #[.pointer (some ⟨sb, 0, none⟩), .slice (some ⟨kb, 0, none⟩) 2 2] Y fun e w' => e = .returned .nilIface ∧ Hid (∃ root' L', Del L L' k ∧ All w w' sb mb wb pb vb st root' L' (i + 1) (fun j => Wf j || decide (j = k)) Wf Pf Vf ∧ w'.heap[N]? = some (.cells #[.bool (P i), .int .u8 (K i).toNat, .string (V i)] 63 (0, 0)))) :=
                (del_sess HY.out.1.1 HY.out.1.2.1 HY.out.1.2.2.1 (by omega) HY.out.2.1 HGY.out.1).mono fun e w' ⟨he, hp⟩ => ⟨he, box_sess HY.out.1 hp.out HY.out.2.2⟩
              go_wp2_with fail
              refine HDel.out.mono ?_
              rintro e w' ⟨rfl, HP⟩
              obtain ⟨root', L', hU, hA', hN'⟩ := HP.out
              have p0 := (hA'.2.2.2.2.1.cell hk40).1
              have p1 := (hA'.2.2.2.2.1.cell hk40).2
              have q0 := (hA'.2.2.2.2.2.1.cell hk40).1
              have q1 := (hA'.2.2.2.2.2.1.cell hk40).2
              have r0 := (hA'.2.2.2.1.cell hk40).1
              have r1 := (hA'.2.2.2.1.cell hk40).2
              obtain ⟨n1, n2, n3, n4, n5, n6⟩ := all_ne hA' hN'
              have HE : Hid (LInv w (((w'.setCell ⟨pb, k, none⟩ (.bool false)).setCell ⟨vb, k, none⟩ (.string ⟨#[]⟩)).setCell ⟨wb, k, none⟩ (.bool true)) sb mb wb pb vb st (i + 1)) := round_del hA' hU HAg.out
              clear hU hA' hN' HP HDel HY HAg
              go_wp2
              go_roundw
              case rel => exact ⟨i + 1, rfl, by omega, HE⟩
              case measure => simp [intOf]; omega
      · have hltz : ¬ (i : Int) < (n : Int) := by omega
        obtain ⟨root, L, Wf, Pf, Vf, hA, hAg⟩ := HI.out
        have HA : Hid (All w wr sb mb wb pb vb st root L i Wf Wf Pf Vf) := hA
        have HAg : Hid (Agree L Pf Vf) := hAg
        have HOps : Hid (Calls Ybaf.prog 12 #[.pointer (some ⟨sb, 0, none⟩)] wr fun e w' => ∃ blk cap G, e = .returned (.slice (some ⟨blk, 0, none⟩) (G : List Gh).length cap) ∧ Hid (OpsPost wr L Wf blk G w')) := ops_sess hA.1 hA.2.1 hA.2.2.1 (by omega)
        clear hA hAg HI HIn
        go_wp2_with fail
        refine HOps.out.mono ?_
        rintro e w1 ⟨blk, cap, G, rfl, HP⟩
        clear HOps
        have HA1 : Hid (All w w1 sb mb wb pb vb st root L i Wf Wf Pf Vf) := HA.out.below HP.out.2.2.2.2
        have HP2 : Hid (RowG w1 blk G ∧ G.Pairwise (fun x y => gk x < gk y) ∧ (∀ k, k < 40 → (Wf k = true ↔ k ∈ G.map gk)) ∧ ∀ g ∈ G, KeyAt w1 g.1 (gk g) ∧ Tells w1 L g) := ⟨HP.out.1, HP.out.2.1, HP.out.2.2.1, HP.out.2.2.2.1⟩
        have HG40 : Hid (G.length ≤ 40) := by
          have := count_lt (G.map gk) 0 40 (by rw [List.pairwise_map]; exact HP2.out.2.1) (fun x hx => by obtain ⟨g, hg, rfl⟩ := List.mem_map.1 hx; obtain ⟨-, -, -, -, h, -⟩ := (HP2.out.2.2.2 g hg).1; exact ⟨Nat.zero_le _, h⟩)
          show G.length ≤ 40
          simpa using this
        clear HA HP hltz
        go_wp2
        go_loopw [13, 12] (fun kv jv wr => ∃ k j : Nat, kv = .int .i64 k ∧ jv = .int .i64 j ∧ k ≤ 40 ∧ j ≤ 40 ∧ Hid (Cnt G k j) ∧ Hid (Below w1.heap.size w1 wr)) (fun kv jv wr => 40 - (intOf kv).toNat)
        case atStart => exact ⟨0, 0, rfl, rfl, Nat.zero_le _, Nat.zero_le _, ⟨[], G, rfl, rfl, by simp, by simp⟩, Below.refl _ _⟩
        case round =>
          obtain ⟨k, j, rfl, rfl, hk, hj, HC, HB⟩ := hrel
          have HAr : Hid (All w wr sb mb wb pb vb st root L i Wf Wf Pf Vf) := HA1.out.below HB.out
          have hGl := HG40.out
          by_cases hlt2 : k < 40
          · have hkz : (k : Int) < 40 := by omega
            have hwk : IntKind.i64.wrap ((k : Int) + 1) = (k : Int) + 1 := IntWalk.i64_in _ ⟨by omega, by omega⟩
            have a0 := (HAr.out.2.2.2.1.cell hlt2).1
            by_cases hW : Wf k = true
            · obtain ⟨hjl, hgk, hC'⟩ := HC.out.take HP2.out.2.1 ((HP2.out.2.2.1 k hlt2).1 hW)
              have HC' : Hid (Cnt G (k + 1) (j + 1)) := hC'
              rw [hW] at a0
              obtain ⟨g, hg⟩ : ∃ g, G[j] = g := ⟨_, rfl⟩
              have hmem : g ∈ G := by rw [← hg]; exact List.getElem_mem hjl
              obtain ⟨kv, vv, dv, kk⟩ := g
              obtain rfl : kk = k := by rw [hg] at hgk; exact hgk
              have hrow := HP2.out.1 j hjl
              rw [hg] at hrow
              have e3 : 3 * j = j * 3 := by omega
              rw [e3] at hrow
              have r0 := k1_of hrow.1 HB.out
              have r1 := k1_of hrow.2.1 HB.out
              have r2 := k1_of hrow.2.2 HB.out
              obtain ⟨hkey, htell⟩ := HP2.out.2.2.2 _ hmem
              have hkey' : KeyAt w1 kv kk := hkey
              obtain ⟨kb, ko, kc, rfl, x0, x1, -⟩ := key_cells hkey'
              have x0' := k1_of x0 HB.out
              have x1' := k1_of x1 HB.out
              have hjz : (j : Int) < (G.length : Int) := by omega
              have hjz2 : ¬ (G.length : Int) ≤ (j : Int) := by omega
              have hwj : IntKind.i64.wrap ((j : Int) + 1) = (j : Int) + 1 := IntWalk.i64_in _ ⟨by omega, by omega⟩
              have p0 := (HAr.out.2.2.2.2.1.cell hlt2).1
              have q0 := (HAr.out.2.2.2.2.2.1.cell hlt2).1
              have HTl : Hid (Tells w1 L (.slice (some ⟨kb, ko, none⟩) 2 kc, vv, dv, kk)) := htell
              clear hrow hkey hkey' htell x0 x1 hmem hg hgk HAr hC'
              by_cases hPf : Pf kk = true
              · rw [hPf] at p0
                obtain ⟨va, vn, vc, bb, rfl, rfl, hbb, hVf⟩ : ∃ a n c b, vv = .slice a n c ∧ dv = .bool false ∧ BytesAt w1 a n b ∧ Vf kk = ⟨b.toArray⟩ := told_put HTl.out HAg.out hlt2 hPf
                rw [hVf] at q0
                have hcv : (convert 22 9 (.slice va vn vc)).run Ybaf.prog (wr.alloc (.cells #[.slice (some ⟨kb, ko, none⟩) 2 kc, .slice va vn vc, .bool false] 31)).drew = .ok (.string ⟨bb.toArray⟩) (wr.alloc (.cells #[.slice (some ⟨kb, ko, none⟩) 2 kc, .slice va vn vc, .bool false] 31)).drew :=
                  BytesAt.convert ((hbb.below HB.out).below ((Below.refl _ _).alloc (Nat.le_refl _) _).drew) vc
                have HB2 : Hid (Below w1.heap.size w1 (wr.alloc (.cells #[.slice (some ⟨kb, ko, none⟩) 2 kc, .slice va vn vc, .bool false] 31)).drew) := HB.out.trans (((Below.refl _ _).alloc (Nat.le_refl _) _).drew.mono HB.out.size)
                have p0' := k1_of p0 ((Below.refl _ _).alloc (Nat.le_refl _) (.cells #[.slice (some ⟨kb, ko, none⟩) 2 kc, .slice va vn vc, .bool false] 31))
                have q0' := k1_of q0 ((Below.refl _ _).alloc (Nat.le_refl _) (.cells #[.slice (some ⟨kb, ko, none⟩) 2 kc, .slice va vn vc, .bool false] 31))
                have x0'' := k1_of x0' ((Below.refl _ _).alloc (Nat.le_refl _) (.cells #[.slice (some ⟨kb, ko, none⟩) 2 kc, .slice va vn vc, .bool false] 31))
                have x1'' := k1_of x1' ((Below.refl _ _).alloc (Nat.le_refl _) (.cells #[.slice (some ⟨kb, ko, none⟩) 2 kc, .slice va vn vc, .bool false] 31))
                clear hbb hVf HTl
                go_wp2
                go_region
                all_goals
                  go_wp2
                  go_roundw
                  case rel => exact ⟨kk + 1, j + 1, rfl, rfl, by omega, by omega, HC', HB2⟩
                  case measure => simp [intOf]; omega
              · have hPf' : Pf kk = false := by simpa using hPf
                rw [hPf'] at p0
                obtain ⟨rfl, rfl⟩ : vv = .slice none 0 0 ∧ dv = .bool true := told_del HTl.out HAg.out hPf'
                have nnil : ∀ w : World, (binOp .neq 22 (.slice none 0 0) (.slice none 0 0)).run Ybaf.prog w = .ok (.bool false) w := fun w => run_neq_slice_nil_any w 22 5 none 0 0 0 0 Ybaf.underlying22
                have HB2 : Hid (Below w1.heap.size w1 (wr.alloc (.cells #[.slice (some ⟨kb, ko, none⟩) 2 kc, .slice none 0 0, .bool true] 31))) := HB.out.trans (((Below.refl _ _).alloc (Nat.le_refl _) _).mono HB.out.size)
                have p0' := k1_of p0 ((Below.refl _ _).alloc (Nat.le_refl _) (.cells #[.slice (some ⟨kb, ko, none⟩) 2 kc, .slice none 0 0, .bool true] 31))
                have x0'' := k1_of x0' ((Below.refl _ _).alloc (Nat.le_refl _) (.cells #[.slice (some ⟨kb, ko, none⟩) 2 kc, .slice none 0 0, .bool true] 31))
                have x1'' := k1_of x1' ((Below.refl _ _).alloc (Nat.le_refl _) (.cells #[.slice (some ⟨kb, ko, none⟩) 2 kc, .slice none 0 0, .bool true] 31))
                clear HTl
                go_wp2
                go_roundw
                case rel => exact ⟨kk + 1, j + 1, rfl, rfl, by omega, by omega, HC', HB2⟩
                case measure => simp [intOf]; omega
            · have hWf : Wf k = false := by simpa using hW
              rw [hWf] at a0
              have HC' : Hid (Cnt G (k + 1) j) := HC.out.skip (fun h => hW ((HP2.out.2.2.1 k hlt2).2 h))
              clear HAr
              go_wp2
              go_roundw
              case rel => exact ⟨k + 1, j, rfl, rfl, by omega, hj, HC', HB⟩
              case measure => simp [intOf]; omega
          · obtain rfl : k = 40 := by omega
            have hje : j = G.length := HC.out.done (fun g hg => by obtain ⟨-, -, -, -, h, -⟩ := (HP2.out.2.2.2 g hg).1; exact h)
            have hjq : ((j : Int) == (G.length : Int)) = true := by rw [hje]; simp
            have HF : Hid (Below w.heap.size w wr) := HAr.out.2.2.2.2.2.2.1
            clear HAr
            go_wp2
            go_ret
            exact ⟨rfl, HF.out⟩

end Go.Proofs.YbulkbgzmFmt
