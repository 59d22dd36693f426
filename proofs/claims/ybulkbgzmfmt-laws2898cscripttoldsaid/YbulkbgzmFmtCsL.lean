/-
  CScript: 'remove', told by the entries.
-/
import Derived.Test.YbulkbgzmFmtCsK
import Derived.Test.YbulkbgzmFmtCsD
import Derived.Test.YbulkbgzmFmtCsE
namespace Go.Proofs.YbulkbgzmFmt
open Go.RowKit Go.Stop
set_option linter.unusedVariables false
attribute [local simp] kvs_app vvs_app kns_app cont_app odd_app kvs_cons vvs_cons kns_cons cont_cons odd_cons kvs_nil vvs_nil kns_nil cont_nil odd_nil kvs_len vvs_len kns_len
def RemPost (w : World) (L : List Ent) (k : Nat) (e : Ending) (w' : World) : Prop := ∃ p' L', e = .returned (.pointer p') ∧ TreeE w' (.pointer p') L' ∧ Del L L' k ∧ Below w.heap.size w w'
/-- What 'delete' at an inner node hands back, where it is another node. -/
def DelOut (w : World) (L : List Ent) (k : Nat) (e : Ending) (w' : World) : Prop :=
  ∃ b g h w0 S C, e = .returned (.pointer (some ⟨b, 0, none⟩)) ∧ BldI w0 w' b g h C.length (S.map (·.1)) (C.map (·.1)) ∧ w.heap.size ≤ w0.heap.size ∧ Below w.heap.size w w' ∧ S.length + 1 = C.length ∧ (∀ s ∈ S, KeyAt w' s.1 s.2) ∧ (∀ c ∈ C, LeafE w' c.1 c.2) ∧
    (inter (sns S) (ces C)).Pairwise (· < ·) ∧ Shape (ces C) ∧ Del L (flat C) k ∧ C.length ≤ 64

theorem Sorted.sub {E E' : List Ent} (h : Sorted E) (hs : E'.Sublist E) : Sorted E' := List.Pairwise.sublist (hs.map key) h
theorem del_keys {c c' : List Ent} {k : Nat} (h : Del c c' k) {y : Nat} (hy : y ∈ odd c') : y ∈ odd c := by
  obtain ⟨e, he, rfl⟩ := mem_odd.1 hy
  obtain ⟨h, -⟩ := (h.2 e.2.2).1 (mem_cont.2 ⟨e, he, rfl⟩)
  obtain ⟨e', he', h⟩ := mem_cont.1 h
  refine mem_odd.2 ⟨e', he', ?_⟩
  unfold key
  rw [h]

theorem merged_plain {S1 S2 : List Nat} {s k : Nat} {C1 C2 : List (List Ent)} {x1 x2 J : List Ent} (l1 : S1.length = C1.length) (l2 : S2.length = C2.length) (h : (inter (S1 ++ s :: S2) (C1 ++ x1 :: x2 :: C2)).Pairwise (· < ·)) (hSh : Shape (C1 ++ x1 :: x2 :: C2)) (hD : Del (x1 ++ x2) J k)
    (hJ1 : 1 ≤ J.length) (hJ2 : J.length ≤ 32) (hJ3 : C2 ≠ [] → 16 ≤ J.length) (sd1 : ∀ e ∈ C1.flatten, key e ≠ k) (sd2 : ∀ e ∈ C2.flatten, key e ≠ k) :
    (inter (S1 ++ S2) (C1 ++ J :: C2)).Pairwise (· < ·) ∧ Shape (C1 ++ J :: C2) ∧ Del (C1.flatten ++ ((x1 ++ x2) ++ C2.flatten)) (C1.flatten ++ (J ++ C2.flatten)) k := by
  rw [inter_split2 _ _ _ _ _ _ _ l1] at h
  have h' : (pre S1 C1 ++ ((odd x1 ++ 2 * s :: odd x2) ++ suf S2 C2)).Pairwise (· < ·) := by simpa using h
  obtain ⟨p1, p2, p3⟩ := List.pairwise_append.1 h'
  obtain ⟨q1, q2, q3⟩ := List.pairwise_append.1 p2
  have inM : ∀ y ∈ odd J, y ∈ odd x1 ++ 2 * s :: odd x2 := fun y hy => by
    have := del_keys hD hy
    rw [odd_app] at this
    rcases List.mem_append.1 this with h | h
    · exact List.mem_append_left _ h
    · exact List.mem_append_right _ (List.mem_cons_of_mem _ h)
  have hO : (inter (S1 ++ S2) (C1 ++ J :: C2)).Pairwise (· < ·) := by
    rw [inter_split _ _ _ _ _ l1]
    exact pw_mid h' (sorted_odd.1 hD.1) (fun x hx y hy => p3 x hx y (List.mem_append_left _ (inM y hy))) (fun y hy x hx => q3 y (inM y hy) x hx)
  obtain ⟨a1, a2, a3⟩ := (shape_app _ _ _).1 hSh
  refine ⟨hO, (shape_app _ _ _).2 ⟨a1, ⟨hJ1, hJ2, hJ3⟩, a3.2⟩, del_flat hD ?_ sd1 sd2⟩
  have := sorted_odd.2 (List.Pairwise.sublist (odd_sub (S1 ++ S2) (C1 ++ J :: C2) (by simp; omega)) hO)
  simpa using this

theorem resplit_plain {S1 S2 : List Nat} {s k m : Nat} {C1 C2 : List (List Ent)} {x1 x2 J : List Ent} {x : Ent} (l1 : S1.length = C1.length) (l2 : S2.length = C2.length) (h : (inter (S1 ++ s :: S2) (C1 ++ x1 :: x2 :: C2)).Pairwise (· < ·)) (hSh : Shape (C1 ++ x1 :: x2 :: C2)) (hD : Del (x1 ++ x2) J k)
    (hm1 : 16 ≤ m) (hm2 : m ≤ 32) (hm3 : m + 16 ≤ J.length) (hm4 : J.length ≤ m + 32) (hx1 : ∀ e ∈ J.take m, key e < key x) (hx2 : ∀ e ∈ J.drop m, key x ≤ key e) (hx : x ∈ J.drop m) (sd1 : ∀ e ∈ C1.flatten, key e ≠ k) (sd2 : ∀ e ∈ C2.flatten, key e ≠ k) :
    (inter (S1 ++ key x :: S2) (C1 ++ J.take m :: J.drop m :: C2)).Pairwise (· < ·) ∧ Shape (C1 ++ J.take m :: J.drop m :: C2) ∧ Del (C1.flatten ++ ((x1 ++ x2) ++ C2.flatten)) (C1.flatten ++ ((J.take m ++ J.drop m) ++ C2.flatten)) k := by
  rw [inter_split2 _ _ _ _ _ _ _ l1] at h
  have h' : (pre S1 C1 ++ ((odd x1 ++ 2 * s :: odd x2) ++ suf S2 C2)).Pairwise (· < ·) := by simpa using h
  obtain ⟨p1, p2, p3⟩ := List.pairwise_append.1 h'
  obtain ⟨q1, q2, q3⟩ := List.pairwise_append.1 p2
  have inM : ∀ y ∈ odd J, y ∈ odd x1 ++ 2 * s :: odd x2 := fun y hy => by
    have := del_keys hD hy
    rw [odd_app] at this
    rcases List.mem_append.1 this with h | h
    · exact List.mem_append_left _ h
    · exact List.mem_append_right _ (List.mem_cons_of_mem _ h)
  have low : ∀ e ∈ J, (∀ z ∈ pre S1 C1, z < 2 * key e + 1) ∧ ∀ z ∈ suf S2 C2, 2 * key e + 1 < z := fun e he => by
    have := inM _ (mem_odd.2 ⟨e, he, rfl⟩)
    exact ⟨fun z hz => p3 z hz _ (List.mem_append_left _ this), fun z hz => q3 _ this z hz⟩
  obtain ⟨x0, hx0⟩ : ∃ e, e ∈ J.take m := by
    cases hT : J.take m with
    | nil =>
      have : (J.take m).length = 0 := by rw [hT]; rfl
      rw [List.length_take] at this
      omega
    | cons e E => exact ⟨e, List.mem_cons_self ..⟩
  have hsJ : Sorted (J.take m ++ J.drop m) := by rw [List.take_append_drop]; exact hD.1
  obtain ⟨u1, u2, u3⟩ := sorted_app.1 hsJ
  have lw0 := low x0 (List.mem_of_mem_take hx0)
  have lwx := low x (List.mem_of_mem_drop hx)
  have k0 := hx1 x0 hx0
  have hO : (inter (S1 ++ key x :: S2) (C1 ++ J.take m :: J.drop m :: C2)).Pairwise (· < ·) := by
    rw [inter_split2 _ _ _ _ _ _ _ l1]
    have := pw_mid (Y := odd (J.take m) ++ 2 * key x :: odd (J.drop m)) h' (List.pairwise_append.2 ⟨sorted_odd.1 u1, List.pairwise_cons.2 ⟨fun y hy => ?_, sorted_odd.1 u2⟩, fun z hz y hy => ?_⟩) (fun z hz y hy => ?_) (fun y hy z hz => ?_)
    · simpa using this
    · obtain ⟨e, he, rfl⟩ := mem_odd.1 hy
      have := hx2 e he
      omega
    · obtain ⟨e, he, rfl⟩ := mem_odd.1 hz
      rcases List.mem_cons.1 hy with rfl | hy
      · have := hx1 e he
        omega
      · obtain ⟨e', he', rfl⟩ := mem_odd.1 hy
        have := u3 e he e' he'
        omega
    · rcases List.mem_append.1 hy with hy | hy
      · obtain ⟨e, he, rfl⟩ := mem_odd.1 hy
        exact (low e (List.mem_of_mem_take he)).1 z hz
      · rcases List.mem_cons.1 hy with rfl | hy
        · have := lw0.1 z hz
          omega
        · obtain ⟨e, he, rfl⟩ := mem_odd.1 hy
          exact (low e (List.mem_of_mem_drop he)).1 z hz
    · rcases List.mem_append.1 hy with hy | hy
      · obtain ⟨e, he, rfl⟩ := mem_odd.1 hy
        exact (low e (List.mem_of_mem_take he)).2 z hz
      · rcases List.mem_cons.1 hy with rfl | hy
        · have := lwx.2 z hz
          omega
        · obtain ⟨e, he, rfl⟩ := mem_odd.1 hy
          exact (low e (List.mem_of_mem_drop he)).2 z hz
  obtain ⟨a1, a2, a3⟩ := (shape_app _ _ _).1 hSh
  have t1 : (J.take m).length = m := by rw [List.length_take]; omega
  have t2 : (J.drop m).length = J.length - m := List.length_drop ..
  refine ⟨hO, (shape_app _ _ _).2 ⟨a1, ⟨by omega, by omega, fun _ => by omega⟩, ⟨by omega, by omega, fun _ => by omega⟩, a3.2⟩, ?_⟩
  rw [List.take_append_drop]
  refine del_flat hD ?_ sd1 sd2
  have := sorted_odd.2 (List.Pairwise.sublist (odd_sub (S1 ++ key x :: S2) (C1 ++ J.take m :: J.drop m :: C2) (by simp; omega)) hO)
  have e : (C1 ++ J.take m :: J.drop m :: C2).flatten = C1.flatten ++ ((J.take m ++ J.drop m) ++ C2.flatten) := by simp only [List.flatten_append, List.flatten_cons, List.append_assoc]
  rw [e, List.take_append_drop] at this
  exact this

end Go.Proofs.YbulkbgzmFmt
