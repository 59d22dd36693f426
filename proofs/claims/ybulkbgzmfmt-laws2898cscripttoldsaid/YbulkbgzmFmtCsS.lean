/-
  CScript: slices.SortFunc over the ops, with its closure.
-/
import Derived.Test.YbulkbgzmFmtCsR
import Derived.Shelf.SlSortCmp.WholeK
import Derived.Ground.SlsfProg
import Derived.Shelf.Lay
namespace Go.Proofs
open Go.Shelf Go.RowKit Go.Lib Go.Sort
shelf_lay_g SlLaysF0.n6 Slsf 6 at Ybaf 22 as Ybaf.sortOps
end Go.Proofs
namespace Go.Proofs.YbulkbgzmFmt
open Go.RowKit Go.Stop
set_option linter.unusedVariables false

/-- An op's cells (key, value, delete) and its key's number. -/
abbrev Gh := Value × Value × Value × Nat
def gk (g : Gh) : Nat := g.2.2.2
def enc3 (g : Gh) : List Value := [g.1, g.2.1, g.2.2.1]
def cmpN (a b : Nat) : Int := if a < b then -1 else if b < a then 1 else 0

set_option maxRecDepth 100000 in
set_option maxHeartbeats 1000000 in
theorem closure23 {W : World} {k1 v1 d1 k2 v2 d2 : Value} {a b : Nat} (h1 : KeyAt W k1 a) (h2 : KeyAt W k2 b) : Calls Ybaf.prog 23 #[.agg #[k1, v1, d1], .agg #[k2, v2, d2]] W fun e w' => e = .returned (.int .i64 (cmpN a b)) ∧ ∃ q os', w' = Go.Sort.grow (W.drewN q) os' := by
  obtain ⟨a1, c1, rfl, x1, y1, z1⟩ := h1
  obtain ⟨a2, c2, rfl, x2, y2, z2⟩ := h2
  have hcon : Hid (∀ W', Below W.heap.size W W' → Calls Ybaf.prog 24 #[.slice a1 2 c1, .slice a2 2 c2] W' fun e w' => e = .returned (.int .i64 (cmpN a b)) ∧ w' = W') := fun W' hb => compare_key (x1.below hb) (x2.below hb) y1 y2
  generalize cmpN a b = r at hcon ⊢
  clear x1 y1 z1 x2 y2 z2
  go_enter Ybaf.func23, Ybaf.ntmps23
  go_wp2_with (go_at_call 24; refine (hcon.out _ (((Below.refl _ _).alloc (Nat.le_refl _) _).alloc (by simp) _)).mono ?_; rintro e w' ⟨rfl, rfl⟩)
  go_ret
  exact ⟨rfl, 0, _, by rw [Go.Sort.alloc_eq_grow, Go.Sort.alloc_eq_grow, Go.Sort.grow_grow]; rfl⟩

theorem sortWorld_but {α : Type} [Inhabited α] (enc : α → List Value) (k : Nat) (w : World) (blk off m : Nat) (dk : Array α) (os : Array Obj) : But blk w (Go.Proofs.sortWorldK enc k w blk off m dk os) := by
  refine ⟨by simp [Go.Proofs.sortWorldK, Go.Sort.putRowK, Go.Sort.ahead], fun j hj hne => ?_⟩
  rw [Go.Proofs.sortWorldK, Go.Sort.heap_grow_old _ _ (by simpa [Go.Sort.putRowK, Go.Sort.ahead] using hj)]
  simp only [Go.Sort.putRowK, Go.Sort.putRow, Go.Sort.mapBlock, Array.getElem?_modify]
  rw [if_neg (fun e => hne e.symm)]
  rfl
theorem sortWorld_same {α : Type} [Inhabited α] (enc : α → List Value) (k : Nat) (w : World) (blk off m : Nat) (dk : Array α) (os : Array Obj) : (Go.Proofs.sortWorldK enc k w blk off m dk os).os = w.os ∧ (Go.Proofs.sortWorldK enc k w blk off m dk os).tape = w.tape ∧ (Go.Proofs.sortWorldK enc k w blk off m dk os).output = w.output := ⟨rfl, rfl, rfl⟩

theorem lt_cmpN (a b : Nat) : decide (cmpN a b < 0) = decide (a < b) := by
  unfold cmpN
  by_cases h1 : a < b
  · simp [h1]
  · by_cases h2 : b < a <;> simp [h1, h2]
theorem swoN {α : Type} (f : α → Nat) : Go.Sort.SWO (ltOf fun x y : α => cmpN (f x) (f y)) where
  irrefl x := by unfold ltOf; rw [lt_cmpN]; simp
  trans x y z h1 h2 := by unfold ltOf at *; rw [lt_cmpN] at *; simp at *; omega
  ntrans x y z h1 h2 := by unfold ltOf at *; rw [lt_cmpN] at *; simp at *; omega

/-- The ops lie in the row. -/
def RowG (w : World) (blk : Nat) (G : List Gh) : Prop := ∀ j (hj : j < G.length), w.cell? ⟨blk, 3 * j, none⟩ = some G[j].1 ∧ w.cell? ⟨blk, 3 * j + 1, none⟩ = some G[j].2.1 ∧ w.cell? ⟨blk, 3 * j + 2, none⟩ = some G[j].2.2.1

set_option maxRecDepth 100000 in
theorem sort_ops {w : World} {blk cap : Nat} {G : List Gh} (hrow : RowG w blk G) (hfz : ∀ o, w.frozen? ⟨blk, o, none⟩ = false) (hblk : blk < w.heap.size) (hn : G.length ≤ 4000) (hne : 0 < G.length)
    (hk : ∀ g ∈ G, ∀ X, But blk w X → KeyAt X g.1 (gk g)) (h1 : ∀ g ∈ G, ∀ v ∈ enc3 g, v.oneCell' = true) :
    Calls Ybaf.prog 22 #[.slice (some ⟨blk, 0, none⟩) G.length cap, .func (.func 23) #[] #[]] w fun e w' => e = .returned (.tuple #[]) ∧ ∃ G' : List Gh, G'.Perm G ∧ G'.Pairwise (fun x y => gk x ≤ gk y) ∧ RowG w' blk G' ∧ But blk w w' ∧ w'.os = w.os ∧ w'.tape = w.tape ∧ w'.output = w.output := by
  have inh : Inhabited { g : Gh // g ∈ G } := ⟨⟨G[0], List.getElem_mem hne⟩⟩
  have eg : ∀ args w, (callFunc 23 args).run Ybaf.prog w = .ok (.enter 23 args) w := enters_of Ybaf.func23 (by kernel_rfl) rfl
  have hd : G.attach.toArray.size = G.length := by simp
  have hget : ∀ (d : Array { g : Gh // g ∈ G }) (l : List { g : Gh // g ∈ G }), d = l.toArray → ∀ j (hj : j < l.length), d[j]! = l[j] := fun d l e j hj => by
    subst e
    simp [hj]
  have hH : Go.Sort.HoldsK (fun x : { g : Gh // g ∈ G } => enc3 x.1) 3 w blk 0 G.attach.toArray := by
    intro t ht
    have ht' : t < G.length * 3 := by simpa using ht
    obtain ⟨q, c, hc, rfl⟩ : ∃ q c, c < 3 ∧ t = 3 * q + c := ⟨t / 3, t % 3, by omega, by omega⟩
    have e1 : (3 * q + c) / 3 = q := by omega
    have e2 : (3 * q + c) % 3 = c := by omega
    have hj : q < G.length := by omega
    refine ⟨?_, hfz _⟩
    rw [Go.Sort.get_flatK _ _ _ _ (by simpa using ht'), Nat.zero_add, e1, e2, hget _ G.attach rfl q (by simpa using hj)]
    have hr := hrow q hj
    have e : (G.attach[q]'(by simpa using hj)).1 = G[q] := by simp
    rw [e]
    have h3 : c = 0 ∨ c = 1 ∨ c = 2 := by omega
    rcases h3 with rfl | rfl | rfl
    · exact hr.1
    · exact hr.2.1
    · exact hr.2.2
  have hcmp : CmpLays Ybaf.prog 23 #[] (fun x : { g : Gh // g ∈ G } => enc3 x.1) 3 (fun x y => cmpN (gk x.1) (gk y.1)) blk 0 G.attach.toArray.size w := fun m os dk hs x y =>
    closure23 (hk x.1 x.2 _ (sortWorld_but _ _ _ _ _ _ _ _)) (hk y.1 y.2 _ (sortWorld_but _ _ _ _ _ _ _ _))
  have hcon := AnyQ.slices_SortFunc Ybaf.sortOps 3 Ybaf.isAgg31 Ybaf.sizeOf31 (fun x : { g : Gh // g ∈ G } => enc3 x.1) (fun _ => rfl) (fun x v hv => h1 x.1 x.2 v hv) (fun x y => cmpN (gk x.1) (gk y.1)) (swoN _) 23 #[] blk 0 cap G.attach.toArray w eg hcmp hH hblk (by rw [hd]; omega)
  rw [hd] at hcon
  change Calls Ybaf.prog 22 _ _ _ at hcon
  refine hcon.mono ?_
  rintro e w' ⟨rfl, d', n, os, hp, hs, rfl⟩
  refine ⟨rfl, d'.toList.map (·.1), ?_, ?_, ?_, sortWorld_but _ _ _ _ _ _ _ _, rfl, rfl, rfl⟩
  · have h := hp.2.2
    have hs2 : d'.size = G.length := hp.1.trans hd
    have e1 : d'.extract 0 G.length = d' := by rw [← hs2]; simp
    have e0 : ∀ a : Array { g : Gh // g ∈ G }, a.extract 0 a.size = a := fun a => by simp
    have e2 := e0 G.attach.toArray
    rw [hd] at e2
    rw [e1, e2] at h
    have h2 := h.map (fun x : { g : Gh // g ∈ G } => x.1)
    rw [show List.map (fun x : { g : Gh // g ∈ G } => x.1) G.attach.toArray.toList = G from List.attach_map_subtype_val G] at h2
    exact h2
  · have hs2 : d'.size = G.length := hp.1.trans hd
    rw [List.pairwise_map, List.pairwise_iff_getElem]
    intro i j hi hj hij
    have := hs i j (Nat.zero_le _) hij (by simpa [hs2] using hj)
    unfold ltOf at this
    rw [lt_cmpN, decide_eq_false_iff_not] at this
    have hi' : i < d'.size := by simpa using hi
    have hj' : j < d'.size := by simpa using hj
    rw [getElem!_pos d' i hi', getElem!_pos d' j hj'] at this
    simpa using this
  · intro j hj
    have hs2 : d'.size = G.length := hp.1.trans hd
    have hj' : j < d'.size := by simpa using hj
    have hh : Go.Sort.HoldsK (fun x : { g : Gh // g ∈ G } => enc3 x.1) 3 (Go.Proofs.sortWorldK (fun x : { g : Gh // g ∈ G } => enc3 x.1) 3 w blk 0 n d' os) blk 0 d' := by
      unfold Go.Proofs.sortWorldK
      exact Go.Sort.holdsK_grow _ _ _ _ _ _ _ (by simpa [Go.Sort.putRowK, Go.Sort.ahead] using hblk) (Go.Sort.holdsK_putRowK _ _ _ _ _ _ _ (show Go.Sort.HoldsK _ 3 (Go.Sort.ahead w n) blk 0 G.attach.toArray from hH) (hs2.trans hd.symm))
    have c0 := (hh.cell (i := j) (c := 0) hj' (by decide)).1
    have c1 := (hh.cell (i := j) (c := 1) hj' (by decide)).1
    have c2 := (hh.cell (i := j) (c := 2) hj' (by decide)).1
    rw [getElem!_pos d' j hj'] at c0 c1 c2
    rw [Nat.zero_add, Nat.mul_comm] at c0 c1 c2
    simp only [List.getElem_map, Array.getElem_toList]
    exact ⟨c0, c1, c2⟩

end Go.Proofs.YbulkbgzmFmt
