/-
  CScript: THE PLAIN LISTS: entries, order, shape.
-/
import Derived.Test.YbulkbgzmFmtCsG
namespace Go.Proofs.YbulkbgzmFmt
open Go.RowKit Go.Stop
set_option linter.unusedVariables false

/-- A pair: its key's and its value's slices, the key's number, the value's bytes. -/
abbrev Ent := Value × Value × Nat × List UInt8
def key (e : Ent) : Nat := e.2.2.1
def kvs (E : List Ent) : List Value := E.map (·.1)
def vvs (E : List Ent) : List Value := E.map (·.2.1)
def kns (E : List Ent) : List Nat := E.map key
def cont (E : List Ent) : List (Nat × List UInt8) := E.map (·.2.2)
def odd (E : List Ent) : List Nat := E.map (fun e => 2 * key e + 1)
def Sorted (E : List Ent) : Prop := (kns E).Pairwise (· < ·)

theorem kvs_app (A B : List Ent) : kvs (A ++ B) = kvs A ++ kvs B := by simp [kvs]
theorem vvs_app (A B : List Ent) : vvs (A ++ B) = vvs A ++ vvs B := by simp [vvs]
theorem kns_app (A B : List Ent) : kns (A ++ B) = kns A ++ kns B := by simp [kns]
theorem cont_app (A B : List Ent) : cont (A ++ B) = cont A ++ cont B := by simp [cont]
theorem odd_app (A B : List Ent) : odd (A ++ B) = odd A ++ odd B := by simp [odd]
theorem kvs_cons (e : Ent) (B : List Ent) : kvs (e :: B) = e.1 :: kvs B := rfl
theorem vvs_cons (e : Ent) (B : List Ent) : vvs (e :: B) = e.2.1 :: vvs B := rfl
theorem kns_cons (e : Ent) (B : List Ent) : kns (e :: B) = key e :: kns B := rfl
theorem cont_cons (e : Ent) (B : List Ent) : cont (e :: B) = e.2.2 :: cont B := rfl
theorem odd_cons (e : Ent) (B : List Ent) : odd (e :: B) = (2 * key e + 1) :: odd B := rfl
theorem kvs_nil : kvs [] = [] := rfl
theorem vvs_nil : vvs [] = [] := rfl
theorem kns_nil : kns [] = [] := rfl
theorem cont_nil : cont [] = [] := rfl
theorem odd_nil : odd [] = [] := rfl
theorem kvs_len (A : List Ent) : (kvs A).length = A.length := by simp [kvs]
theorem vvs_len (A : List Ent) : (vvs A).length = A.length := by simp [vvs]
theorem kns_len (A : List Ent) : (kns A).length = A.length := by simp [kns]
attribute [local simp] kvs_app vvs_app kns_app cont_app odd_app kvs_cons vvs_cons kns_cons cont_cons odd_cons kvs_nil vvs_nil kns_nil cont_nil odd_nil kvs_len vvs_len kns_len
theorem mem_kns {A : List Ent} {k : Nat} : k ∈ kns A ↔ ∃ e ∈ A, key e = k := by simp [kns]
theorem mem_odd {A : List Ent} {y : Nat} : y ∈ odd A ↔ ∃ e ∈ A, 2 * key e + 1 = y := by simp [odd]
theorem mem_cont {A : List Ent} {y : Nat × List UInt8} : y ∈ cont A ↔ ∃ e ∈ A, e.2.2 = y := by simp [cont]
theorem kvs_take (A : List Ent) (m : Nat) : (kvs A).take m = kvs (A.take m) := by simp [kvs]
theorem vvs_take (A : List Ent) (m : Nat) : (vvs A).take m = vvs (A.take m) := by simp [vvs]
theorem kvs_drop (A : List Ent) (m : Nat) : (kvs A).drop m = kvs (A.drop m) := by simp [kvs]
theorem vvs_drop (A : List Ent) (m : Nat) : (vvs A).drop m = vvs (A.drop m) := by simp [vvs]

theorem sorted_odd {E : List Ent} : Sorted E ↔ (odd E).Pairwise (· < ·) := by
  unfold Sorted
  induction E with
  | nil => simp
  | cons e E ih =>
    rw [kns_cons, odd_cons, List.pairwise_cons, List.pairwise_cons, ih]
    constructor
    · rintro ⟨h1, h2⟩
      refine ⟨fun y hy => ?_, h2⟩
      obtain ⟨x, hx, rfl⟩ := mem_odd.1 hy
      have := h1 _ (mem_kns.2 ⟨x, hx, rfl⟩)
      omega
    · rintro ⟨h1, h2⟩
      refine ⟨fun y hy => ?_, h2⟩
      obtain ⟨x, hx, rfl⟩ := mem_kns.1 hy
      have := h1 _ (mem_odd.2 ⟨x, hx, rfl⟩)
      omega

/-- A list of numbers in ascending order, parted at k. -/
theorem part (l : List Nat) (h : l.Pairwise (· < ·)) (k : Nat) :
    (∃ A B, l = A ++ k :: B ∧ (∀ a ∈ A, a < k) ∧ ∀ b ∈ B, k < b) ∨ (∃ A B, l = A ++ B ∧ (∀ a ∈ A, a < k) ∧ ∀ b ∈ B, k < b) := by
  induction l with
  | nil => exact .inr ⟨[], [], rfl, by simp, by simp⟩
  | cons x l ih =>
    obtain ⟨h1, h2⟩ := List.pairwise_cons.1 h
    rcases Nat.lt_trichotomy x k with hx | hx | hx
    · rcases ih h2 with ⟨A, B, rfl, ha, hb⟩ | ⟨A, B, rfl, ha, hb⟩
      · exact .inl ⟨x :: A, B, rfl, fun a h => by rcases List.mem_cons.1 h with rfl | h; exact hx; exact ha a h, hb⟩
      · exact .inr ⟨x :: A, B, rfl, fun a h => by rcases List.mem_cons.1 h with rfl | h; exact hx; exact ha a h, hb⟩
    · subst hx
      exact .inl ⟨[], l, rfl, by simp, h1⟩
    · exact .inr ⟨[], x :: l, rfl, by simp, fun b hb => by rcases List.mem_cons.1 hb with rfl | hb; exact hx; exact Nat.lt_trans hx (h1 b hb)⟩

theorem map_split {α β : Type} (f : α → β) (E : List α) (A B : List β) (h : E.map f = A ++ B) : ∃ A' B', E = A' ++ B' ∧ A'.map f = A ∧ B'.map f = B :=
  List.map_eq_append_iff.1 h

/-- The entries parted at k. -/
theorem partE (E : List Ent) (h : Sorted E) (k : Nat) :
    (∃ A e B, E = A ++ e :: B ∧ key e = k ∧ (∀ a ∈ A, key a < k) ∧ ∀ b ∈ B, k < key b) ∨ (∃ A B, E = A ++ B ∧ (∀ a ∈ A, key a < k) ∧ ∀ b ∈ B, k < key b) := by
  rcases part (kns E) h k with ⟨A, B, e, ha, hb⟩ | ⟨A, B, e, ha, hb⟩
  · obtain ⟨A', B', rfl, rfl, h2⟩ := map_split key E A (k :: B) e
    obtain ⟨x, B'', rfl, h3, rfl⟩ := List.map_eq_cons_iff.1 h2
    exact .inl ⟨A', x, B'', rfl, h3, fun a h => ha _ (List.mem_map_of_mem h), fun b h => hb _ (List.mem_map_of_mem h)⟩
  · obtain ⟨A', B', rfl, rfl, rfl⟩ := map_split key E A B e
    exact .inr ⟨A', B', rfl, fun a h => ha _ (List.mem_map_of_mem h), fun b h => hb _ (List.mem_map_of_mem h)⟩

theorem kAt_left {A B : List Nat} {j : Nat} (h : j < A.length) : kAt (A ++ B) j ∈ A := by
  unfold kAt
  rw [List.getD_eq_getElem?_getD, List.getElem?_append_left h, List.getElem?_eq_getElem h]
  simp
theorem kAt_right {A B : List Nat} {j : Nat} (h : A.length ≤ j) (h2 : j < A.length + B.length) : kAt (A ++ B) j ∈ B := by
  unfold kAt
  rw [List.getD_eq_getElem?_getD, List.getElem?_append_right h, List.getElem?_eq_getElem (by omega)]
  simp
theorem kAt_mid {A B : List Nat} {k : Nat} : kAt (A ++ k :: B) A.length = k := by
  unfold kAt
  rw [List.getD_eq_getElem?_getD, List.getElem?_append_right (Nat.le_refl _), Nat.sub_self]
  rfl
theorem asc_of {l : List Nat} (h : l.Pairwise (· < ·)) : Asc l := by
  intro i j hij hj
  have := List.pairwise_iff_getElem.1 h i j (by omega) hj hij
  unfold kAt
  rw [List.getD_eq_getElem?_getD, List.getD_eq_getElem?_getD, List.getElem?_eq_getElem (by omega), List.getElem?_eq_getElem hj]
  simpa using this
theorem found_of {A B : List Nat} {k : Nat} (ha : ∀ a ∈ A, a < k) (hb : ∀ b ∈ B, k ≤ b) : Found (A ++ B) k A.length :=
  ⟨by simp, fun j hj => ha _ (kAt_left hj), fun j h1 h2 => hb _ (kAt_right h1 (by simpa using h2))⟩
theorem isAt_mid {A B : List Nat} {k : Nat} : isAt (A ++ k :: B) k A.length = true := by
  unfold isAt
  rw [kAt_mid]
  simp
theorem isAt_none {A B : List Nat} {k : Nat} (hb : ∀ b ∈ B, k < b) : isAt (A ++ B) k A.length = false := by
  unfold isAt
  rw [decide_eq_false_iff_not]
  rintro ⟨h1, h2⟩
  have := hb _ (kAt_right (A := A) (B := B) (Nat.le_refl _) (by simpa using h1))
  omega

/-- Ascending numbers below b: no more than b of them. -/
theorem count_lt (l : List Nat) (a b : Nat) (h : l.Pairwise (· < ·)) (hb : ∀ x ∈ l, a ≤ x ∧ x < b) : l.length ≤ b - a := by
  induction l generalizing a with
  | nil => simp
  | cons x l ih =>
    obtain ⟨h1, h2⟩ := List.pairwise_cons.1 h
    have := ih (x + 1) h2 (fun y hy => ⟨h1 y hy, (hb y (List.mem_cons_of_mem _ hy)).2⟩)
    have := hb x (List.mem_cons_self ..)
    simp only [List.length_cons]
    omega

/-- The pairs with k set to b; without k. -/
def Upd (E E' : List Ent) (k : Nat) (b : List UInt8) : Prop := Sorted E' ∧ ∀ y, y ∈ cont E' ↔ y = (k, b) ∨ (y ∈ cont E ∧ y.1 ≠ k)
def Del (E E' : List Ent) (k : Nat) : Prop := Sorted E' ∧ ∀ y, y ∈ cont E' ↔ y ∈ cont E ∧ y.1 ≠ k

theorem sorted_app {A B : List Ent} : Sorted (A ++ B) ↔ Sorted A ∧ Sorted B ∧ ∀ a ∈ A, ∀ b ∈ B, key a < key b := by
  unfold Sorted kns
  rw [List.map_append, List.pairwise_append]
  constructor
  · rintro ⟨h1, h2, h3⟩
    exact ⟨h1, h2, fun a ha b hb => h3 _ (List.mem_map_of_mem ha) _ (List.mem_map_of_mem hb)⟩
  · rintro ⟨h1, h2, h3⟩
    refine ⟨h1, h2, fun a ha b hb => ?_⟩
    obtain ⟨x, hx, rfl⟩ := List.mem_map.1 ha
    obtain ⟨y, hy, rfl⟩ := List.mem_map.1 hb
    exact h3 x hx y hy
theorem sorted_cons {e : Ent} {B : List Ent} : Sorted (e :: B) ↔ (∀ b ∈ B, key e < key b) ∧ Sorted B := by
  unfold Sorted kns
  rw [List.map_cons, List.pairwise_cons]
  constructor
  · rintro ⟨h1, h2⟩
    exact ⟨fun b hb => h1 _ (List.mem_map_of_mem hb), h2⟩
  · rintro ⟨h1, h2⟩
    refine ⟨fun b hb => ?_, h2⟩
    obtain ⟨y, hy, rfl⟩ := List.mem_map.1 hb
    exact h1 y hy

theorem cont_ne {A : List Ent} {k : Nat} (h : ∀ a ∈ A, key a ≠ k) {y : Nat × List UInt8} (hy : y ∈ cont A) : y.1 ≠ k := by
  obtain ⟨e, he, rfl⟩ := mem_cont.1 hy
  exact h e he
theorem upd_found {A B : List Ent} {e e' : Ent} {k : Nat} {b : List UInt8} (h : Sorted (A ++ e :: B)) (he : key e = k) (ha : ∀ a ∈ A, key a < k) (hb : ∀ b ∈ B, k < key b) (he' : e'.2.2 = (k, b)) : Upd (A ++ e :: B) (A ++ e' :: B) k b := by
  have hk : key e' = k := by unfold key; rw [he']
  obtain ⟨h1, h2, h3⟩ := sorted_app.1 h
  obtain ⟨h4, h5⟩ := sorted_cons.1 h2
  refine ⟨sorted_app.2 ⟨h1, sorted_cons.2 ⟨fun x hx => by rw [hk]; exact hb x hx, h5⟩, fun a hx y hy => ?_⟩, fun y => ?_⟩
  · rcases List.mem_cons.1 hy with rfl | hy
    · rw [hk]; exact ha a hx
    · exact h3 a hx y (List.mem_cons_of_mem _ hy)
  · simp only [cont_app, cont_cons, List.mem_append, List.mem_cons, he']
    constructor
    · rintro (h | h | h)
      · exact .inr ⟨.inl h, cont_ne (fun a hx => Nat.ne_of_lt (ha a hx)) h⟩
      · exact .inl h
      · exact .inr ⟨.inr (.inr h), cont_ne (fun a hx => Nat.ne_of_gt (hb a hx)) h⟩
    · rintro (h | ⟨h | h | h, hn⟩)
      · exact .inr (.inl h)
      · exact .inl h
      · exact absurd (by rw [h]; exact he) hn
      · exact .inr (.inr h)
theorem upd_new {A B : List Ent} {e' : Ent} {k : Nat} {b : List UInt8} (h : Sorted (A ++ B)) (ha : ∀ a ∈ A, key a < k) (hb : ∀ b ∈ B, k < key b) (he' : e'.2.2 = (k, b)) : Upd (A ++ B) (A ++ e' :: B) k b := by
  have hk : key e' = k := by unfold key; rw [he']
  obtain ⟨h1, h2, h3⟩ := sorted_app.1 h
  refine ⟨sorted_app.2 ⟨h1, sorted_cons.2 ⟨fun x hx => by rw [hk]; exact hb x hx, h2⟩, fun a hx y hy => ?_⟩, fun y => ?_⟩
  · rcases List.mem_cons.1 hy with rfl | hy
    · rw [hk]; exact ha a hx
    · exact h3 a hx y hy
  · simp only [cont_app, cont_cons, List.mem_append, List.mem_cons, he']
    constructor
    · rintro (h | h | h)
      · exact .inr ⟨.inl h, cont_ne (fun a hx => Nat.ne_of_lt (ha a hx)) h⟩
      · exact .inl h
      · exact .inr ⟨.inr h, cont_ne (fun a hx => Nat.ne_of_gt (hb a hx)) h⟩
    · rintro (h | ⟨h | h, hn⟩)
      · exact .inr (.inl h)
      · exact .inl h
      · exact .inr (.inr h)
theorem del_found {A B : List Ent} {e : Ent} {k : Nat} (h : Sorted (A ++ e :: B)) (he : key e = k) (ha : ∀ a ∈ A, key a < k) (hb : ∀ b ∈ B, k < key b) : Del (A ++ e :: B) (A ++ B) k := by
  obtain ⟨h1, h2, h3⟩ := sorted_app.1 h
  obtain ⟨h4, h5⟩ := sorted_cons.1 h2
  refine ⟨sorted_app.2 ⟨h1, h5, fun a hx y hy => h3 a hx y (List.mem_cons_of_mem _ hy)⟩, fun y => ?_⟩
  simp only [cont_app, cont_cons, List.mem_append, List.mem_cons]
  constructor
  · rintro (h | h)
    · exact ⟨.inl h, cont_ne (fun a hx => Nat.ne_of_lt (ha a hx)) h⟩
    · exact ⟨.inr (.inr h), cont_ne (fun a hx => Nat.ne_of_gt (hb a hx)) h⟩
  · rintro ⟨h | h | h, hn⟩
    · exact .inl h
    · exact absurd (by rw [h]; exact he) hn
    · exact .inr h
theorem del_absent {E : List Ent} {k : Nat} (h : Sorted E) (hn : ∀ e ∈ E, key e ≠ k) : Del E E k := ⟨h, fun y => ⟨fun hy => ⟨hy, cont_ne hn hy⟩, fun hy => hy.1⟩⟩

/-- An inner node's keys and its children's, in order: a child's key k as 2k + 1, a parting key s as 2s. -/
def inter : List Nat → List (List Ent) → List Nat
  | _, [] => []
  | [], c :: _ => odd c
  | s :: S, c :: C => odd c ++ 2 * s :: inter S C
def pre : List Nat → List (List Ent) → List Nat
  | s :: S, c :: C => odd c ++ 2 * s :: pre S C
  | _, _ => []
def suf : List Nat → List (List Ent) → List Nat
  | [], _ => []
  | s :: S, C => 2 * s :: inter S C

theorem inter_one (S : List Nat) (c : List Ent) (C : List (List Ent)) : inter S (c :: C) = odd c ++ suf S C := by
  cases S <;> simp [inter, suf]
theorem inter_split (S1 S2 : List Nat) (C1 : List (List Ent)) (c : List Ent) (C2 : List (List Ent)) (h : S1.length = C1.length) : inter (S1 ++ S2) (C1 ++ c :: C2) = pre S1 C1 ++ (odd c ++ suf S2 C2) := by
  induction C1 generalizing S1 with
  | nil =>
    obtain rfl : S1 = [] := List.eq_nil_of_length_eq_zero (by simpa using h)
    simp [pre, inter_one]
  | cons d C1 ih =>
    cases S1 with
    | nil => simp at h
    | cons s S1 =>
      simp only [List.length_cons, Nat.add_right_cancel_iff] at h
      simp only [List.cons_append, inter, pre, ih S1 h, List.append_assoc]
theorem inter_split2 (S1 S2 : List Nat) (s : Nat) (C1 : List (List Ent)) (c d : List Ent) (C2 : List (List Ent)) (h : S1.length = C1.length) : inter (S1 ++ s :: S2) (C1 ++ c :: d :: C2) = pre S1 C1 ++ (odd c ++ 2 * s :: (odd d ++ suf S2 C2)) := by
  rw [inter_split S1 (s :: S2) C1 c (d :: C2) h]
  simp only [suf, inter_one]

theorem pre_le {S : List Nat} {C : List (List Ent)} (h : (pre S C).Pairwise (· < ·)) {x : Nat} (hx : x ∈ pre S C) : ∃ s ∈ S, x ≤ 2 * s := by
  induction S generalizing C with
  | nil => simp [pre] at hx
  | cons s S ih =>
    cases C with
    | nil => simp [pre] at hx
    | cons c C =>
      simp only [pre] at h hx
      obtain ⟨h1, h2, h3⟩ := List.pairwise_append.1 h
      obtain ⟨h4, h5⟩ := List.pairwise_cons.1 h2
      rcases List.mem_append.1 hx with hx | hx
      · exact ⟨s, List.mem_cons_self .., Nat.le_of_lt (h3 x hx _ (List.mem_cons_self ..))⟩
      · rcases List.mem_cons.1 hx with rfl | hx
        · exact ⟨s, List.mem_cons_self .., Nat.le_refl _⟩
        · obtain ⟨t, ht, hl⟩ := ih h5 hx
          exact ⟨t, List.mem_cons_of_mem _ ht, hl⟩
theorem suf_ge {S : List Nat} {C : List (List Ent)} (h : (suf S C).Pairwise (· < ·)) {x : Nat} (hx : x ∈ suf S C) : ∃ s ∈ S, 2 * s ≤ x := by
  cases S with
  | nil => simp [suf] at hx
  | cons s S =>
    simp only [suf] at h hx
    obtain ⟨h1, h2⟩ := List.pairwise_cons.1 h
    rcases List.mem_cons.1 hx with rfl | hx
    · exact ⟨s, List.mem_cons_self .., Nat.le_refl _⟩
    · exact ⟨s, List.mem_cons_self .., Nat.le_of_lt (h1 x hx)⟩
theorem mem_pre {S : List Nat} {C : List (List Ent)} (hl : S.length = C.length) {c : List Ent} (hc : c ∈ C) {e : Ent} (he : e ∈ c) : 2 * key e + 1 ∈ pre S C := by
  induction C generalizing S with
  | nil => simp at hc
  | cons d C ih =>
    cases S with
    | nil => simp at hl
    | cons s S =>
      simp only [pre]
      rcases List.mem_cons.1 hc with rfl | hc
      · exact List.mem_append_left _ (mem_odd.2 ⟨e, he, rfl⟩)
      · exact List.mem_append_right _ (List.mem_cons_of_mem _ (ih (by simpa using hl) hc))
theorem mem_inter {S : List Nat} {C : List (List Ent)} (hl : S.length + 1 = C.length) {c : List Ent} (hc : c ∈ C) {e : Ent} (he : e ∈ c) : 2 * key e + 1 ∈ inter S C := by
  induction C generalizing S with
  | nil => simp at hc
  | cons d C ih =>
    cases S with
    | nil =>
      obtain rfl : C = [] := List.eq_nil_of_length_eq_zero (by simpa using hl.symm)
      simp at hc
      subst hc
      exact mem_odd.2 ⟨e, he, rfl⟩
    | cons s S =>
      simp only [inter]
      rcases List.mem_cons.1 hc with rfl | hc
      · exact List.mem_append_left _ (mem_odd.2 ⟨e, he, rfl⟩)
      · exact List.mem_append_right _ (List.mem_cons_of_mem _ (ih (by simpa using hl) hc))
theorem mem_suf {S : List Nat} {C : List (List Ent)} (hl : S.length = C.length) {c : List Ent} (hc : c ∈ C) {e : Ent} (he : e ∈ c) : 2 * key e + 1 ∈ suf S C := by
  cases S with
  | nil =>
    obtain rfl : C = [] := List.eq_nil_of_length_eq_zero (by simpa using hl.symm)
    simp at hc
  | cons s S => exact List.mem_cons_of_mem _ (mem_inter (by simpa using hl) hc he)
theorem seps_sub (S : List Nat) (C : List (List Ent)) (hl : S.length ≤ C.length) : (S.map (2 * ·)).Sublist (inter S C) := by
  induction C generalizing S with
  | nil =>
    obtain rfl : S = [] := List.eq_nil_of_length_eq_zero (by simpa using hl)
    simp
  | cons c C ih =>
    cases S with
    | nil => simp
    | cons s S =>
      simp only [inter, List.map_cons]
      exact List.Sublist.trans (List.Sublist.cons_cons _ (ih S (by simpa using hl))) (List.sublist_append_right _ _)
theorem odd_sub (S : List Nat) (C : List (List Ent)) (hl : S.length + 1 = C.length) : (odd C.flatten).Sublist (inter S C) := by
  induction C generalizing S with
  | nil => simp at hl
  | cons c C ih =>
    cases S with
    | nil =>
      obtain rfl : C = [] := List.eq_nil_of_length_eq_zero (by simpa using hl.symm)
      simp [inter]
    | cons s S =>
      simp only [inter, List.flatten_cons, odd_app]
      exact List.Sublist.append (List.Sublist.refl _) ((ih S (by simpa using hl)).trans (List.sublist_cons_self _ _))

/-- The children's sizes. -/
def Shape : List (List Ent) → Prop
  | [] => True
  | c :: C => (1 ≤ c.length ∧ c.length ≤ 32 ∧ (C ≠ [] → 16 ≤ c.length)) ∧ Shape C
theorem shape_app (C1 : List (List Ent)) (c : List Ent) (C2 : List (List Ent)) : Shape (C1 ++ c :: C2) ↔ (∀ d ∈ C1, 16 ≤ d.length ∧ d.length ≤ 32) ∧ (1 ≤ c.length ∧ c.length ≤ 32 ∧ (C2 ≠ [] → 16 ≤ c.length)) ∧ Shape C2 := by
  induction C1 with
  | nil => simp [Shape]
  | cons d C1 ih =>
    simp only [List.cons_append, Shape, ih, List.mem_cons, forall_eq_or_imp]
    constructor
    · rintro ⟨⟨h1, h2, h3⟩, h4, h5, h6⟩
      exact ⟨⟨⟨h3 (by simp), h2⟩, h4⟩, h5, h6⟩
    · rintro ⟨⟨⟨h3, h2⟩, h4⟩, h5, h6⟩
      exact ⟨⟨by omega, h2, fun _ => h3⟩, h4, h5, h6⟩
theorem shape_count (C : List (List Ent)) (h : Shape C) (hne : C ≠ []) : 16 * C.length ≤ C.flatten.length + 15 := by
  induction C with
  | nil => exact absurd rfl hne
  | cons c C ih =>
    obtain ⟨⟨h1, h2, h3⟩, h4⟩ := h
    by_cases hC : C = []
    · subst hC; simp; omega
    · have := ih h4 hC
      have := h3 hC
      simp only [List.length_cons, List.flatten_cons, List.length_append]
      omega

end Go.Proofs.YbulkbgzmFmt
