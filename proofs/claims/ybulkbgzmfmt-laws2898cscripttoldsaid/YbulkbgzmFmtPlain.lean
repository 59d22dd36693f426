/-
  THE PLAIN LAW (no Go in sight): what a string of bytes decodes to, write by write; and that what is encoded decodes to what was encoded.
-/
import Derived.Lib.Varint
import Derived.Lib.VarintDec
import Derived.Lib.VarintMem
namespace Go.Proofs.YbulkbgzmFmt
open Go

/-- A length and that many bytes off the head: the bytes, and what is left. -/
def field (l : List UInt8) : Option (List UInt8 × List UInt8) :=
  if (Lib.uvarintDec l).2 ≤ 0 then none
  else if (l.length : Int) - (Lib.uvarintDec l).2 < (Lib.uvarintDec l).1 then none
  else some ((l.drop (Lib.uvarintDec l).2.toNat).take (Lib.uvarintDec l).1, (l.drop (Lib.uvarintDec l).2.toNat).drop (Lib.uvarintDec l).1)

/-- A write: its key; its value (none: a delete). -/
structure Wr where
  key : List UInt8
  val : Option (List UInt8)

/-- One write off the head. -/
def wr1 : List UInt8 → Option (Wr × List UInt8)
  | [] => none
  | k :: t =>
    match field t with
    | none => none
    | some (key, r) =>
      if key.length = 0 ∨ 4096 < key.length then none
      else if k = 1 then
        match field r with
        | none => none
        | some (v, r2) => if 16777216 < v.length then none else some (⟨key, some v⟩, r2)
      else if k = 2 then some (⟨key, none⟩, r)
      else none

/-- Fuel: more than the bytes are never wanted. -/
def decF : Nat → List UInt8 → Option (List Wr)
  | 0, _ => some []
  | _ + 1, [] => some []
  | f + 1, k :: t =>
    match wr1 (k :: t) with
    | none => none
    | some (o, r) => (decF f r).map (o :: ·)

/-- All writes. -/
def dec (l : List UInt8) : Option (List Wr) := decF l.length l

/-! ### what is left is shorter -/
theorem uvarintFrom_le : ∀ (l : List UInt8) (i acc : Nat), (Lib.uvarintFrom i acc l).2 ≤ (i : Int) + l.length
  | [], i, acc => by simp [Lib.uvarintFrom]
  | b :: r, i, acc => by
    unfold Lib.uvarintFrom
    split
    · simp only [List.length_cons]; omega
    · split
      · split
        · simp only [List.length_cons]; omega
        · simp only [List.length_cons]; omega
      · have := uvarintFrom_le r (i + 1) (acc + b.toNat % 128 * 2 ^ (7 * i))
        simp only [List.length_cons]
        omega
theorem uvarintDec_le (l : List UInt8) : (Lib.uvarintDec l).2 ≤ (l.length : Int) := by
  have := uvarintFrom_le l 0 0
  simpa [Lib.uvarintDec] using this

theorem field_some {l k r : List UInt8} (h : field l = some (k, r)) :
    ∃ n : Nat, (Lib.uvarintDec l).2 = (n : Int) ∧ 0 < n ∧ n + (Lib.uvarintDec l).1 ≤ l.length ∧ k = (l.drop n).take (Lib.uvarintDec l).1 ∧ r = (l.drop n).drop (Lib.uvarintDec l).1 := by
  unfold field at h
  split at h
  · cases h
  · split at h
    · cases h
    · rename_i h1 h2
      obtain ⟨n, hn⟩ := Int.eq_ofNat_of_zero_le (show 0 ≤ (Lib.uvarintDec l).2 by omega)
      simp only [Option.some.injEq, Prod.mk.injEq] at h
      refine ⟨n, hn, by omega, by omega, ?_, ?_⟩
      · rw [← h.1, hn, Int.toNat_natCast]
      · rw [← h.2, hn, Int.toNat_natCast]
theorem field_len {l k r : List UInt8} (h : field l = some (k, r)) : k.length + r.length < l.length := by
  obtain ⟨n, _, h1, h2, rfl, rfl⟩ := field_some h
  simp only [List.length_take, List.length_drop]
  omega
theorem field_none {l : List UInt8} (h : field l = none) : (Lib.uvarintDec l).2 ≤ 0 ∨ (l.length : Int) - (Lib.uvarintDec l).2 < (Lib.uvarintDec l).1 := by
  unfold field at h
  split at h
  · exact .inl (by assumption)
  · split at h
    · exact .inr (by assumption)
    · cases h

theorem wr1_cons (k : UInt8) (t : List UInt8) : wr1 (k :: t) = (match field t with
    | none => none
    | some (key, r) =>
      if key.length = 0 ∨ 4096 < key.length then none
      else if k = 1 then
        match field r with
        | none => none
        | some (v, r2) => if 16777216 < v.length then none else some (⟨key, some v⟩, r2)
      else if k = 2 then some (⟨key, none⟩, r)
      else none) := rfl

theorem wr1_len {l r : List UInt8} {o : Wr} (h : wr1 l = some (o, r)) : r.length < l.length := by
  cases l with
  | nil => simp [wr1] at h
  | cons k t =>
    rw [wr1_cons] at h
    cases hf : field t with
    | none => rw [hf] at h; cases h
    | some p =>
      obtain ⟨key, r1⟩ := p
      have h1 := field_len hf
      rw [hf] at h
      simp only at h
      split at h
      · cases h
      · split at h
        · cases hf2 : field r1 with
          | none => rw [hf2] at h; cases h
          | some p2 =>
            obtain ⟨v, r2⟩ := p2
            have h2 := field_len hf2
            rw [hf2] at h
            simp only at h
            split at h
            · cases h
            · simp only [Option.some.injEq, Prod.mk.injEq] at h
              rw [← h.2]
              simp only [List.length_cons]
              omega
        · split at h
          · simp only [Option.some.injEq, Prod.mk.injEq] at h
            rw [← h.2]
            simp only [List.length_cons]
            omega
          · cases h

theorem decF_cons (f : Nat) (k : UInt8) (t : List UInt8) : decF (f + 1) (k :: t) = (match wr1 (k :: t) with
    | none => none
    | some (o, r) => (decF f r).map (o :: ·)) := rfl

theorem decF_enough : ∀ (f g : Nat) (l : List UInt8), l.length ≤ f → l.length ≤ g → decF f l = decF g l
  | 0, g, l, hf, _ => by
    obtain rfl : l = [] := List.eq_nil_of_length_eq_zero (by omega)
    cases g <;> rfl
  | f + 1, 0, l, _, hg => by
    obtain rfl : l = [] := List.eq_nil_of_length_eq_zero (by omega)
    rfl
  | f + 1, g + 1, [], _, _ => rfl
  | f + 1, g + 1, k :: t, hf, hg => by
    rw [decF_cons, decF_cons]
    cases h : wr1 (k :: t) with
    | none => rfl
    | some p =>
      obtain ⟨o, r⟩ := p
      have h1 := wr1_len h
      simp only [List.length_cons] at h1 hf hg
      simp only
      rw [decF_enough f g r (by omega) (by omega)]

theorem dec_nil : dec [] = some [] := rfl
theorem dec_step {l r : List UInt8} {o : Wr} (h : wr1 l = some (o, r)) : dec l = (dec r).map (o :: ·) := by
  have h1 := wr1_len h
  cases l with
  | nil => simp [wr1] at h
  | cons k t =>
    show decF (t.length + 1) (k :: t) = _
    rw [decF_cons, h]
    simp only
    simp only [List.length_cons] at h1
    rw [decF_enough t.length r.length r (by omega) (Nat.le_refl _)]
    rfl
theorem dec_stop {l : List UInt8} (hl : l ≠ []) (h : wr1 l = none) : dec l = none := by
  cases l with
  | nil => exact absurd rfl hl
  | cons k t =>
    show decF (t.length + 1) (k :: t) = _
    rw [decF_cons, h]

/-! ### what is encoded is what is decoded -/
theorem from_go (i acc : Nat) (b : UInt8) (r : List UInt8) (hi : i < 9) (h : 128 ≤ b.toNat) : Lib.uvarintFrom i acc (b :: r) = Lib.uvarintFrom (i + 1) (acc + b.toNat % 128 * 2 ^ (7 * i)) r := by
  rw [Lib.uvarintFrom, if_neg (by omega), if_neg (by omega)]
theorem from_end (i acc : Nat) (b : UInt8) (r : List UInt8) (hi : i < 9) (h : b.toNat < 128) : Lib.uvarintFrom i acc (b :: r) = (acc + b.toNat * 2 ^ (7 * i), (i : Int) + 1) := by
  rw [Lib.uvarintFrom, if_neg (by omega), if_pos h, if_neg (by omega)]
theorem uvarintDec_uvarint (x : Nat) (r : List UInt8) (hx : x < 2097152) : Lib.uvarintDec (Lib.uvarint x ++ r) = (x, ((Lib.uvarint x).length : Int)) := by
  have e : ∀ a : Nat, a < 256 → (a.toUInt8).toNat = a := fun a h => Lib.toUInt8_toNat h
  unfold Lib.uvarintDec
  by_cases h1 : x < 128
  · rw [Lib.uvarint_small h1, List.cons_append, from_end _ _ _ _ (by omega) (by rw [e x (by omega)]; exact h1), e x (by omega)]
    simp
  · rw [Lib.uvarint_big (by omega)]
    have e1 := e (x % 128 + 128) (by omega)
    by_cases h2 : x / 128 < 128
    · have e2 := e (x / 128) (by omega)
      rw [Lib.uvarint_small h2, List.cons_append, from_go _ _ _ _ (by omega) (by rw [e1]; omega), List.cons_append, from_end _ _ _ _ (by omega) (by rw [e2]; exact h2), e1, e2]
      refine Prod.ext ?_ ?_
      · show 0 + (x % 128 + 128) % 128 * 1 + x / 128 * 128 = x
        omega
      · rfl
    · have e2 := e (x / 128 % 128 + 128) (by omega)
      have e3 := e (x / 128 / 128) (by omega)
      rw [Lib.uvarint_big (by omega), Lib.uvarint_small (show x / 128 / 128 < 128 by omega), List.cons_append, from_go _ _ _ _ (by omega) (by rw [e1]; omega), List.cons_append, from_go _ _ _ _ (by omega) (by rw [e2]; omega),
        List.cons_append, from_end _ _ _ _ (by omega) (by rw [e3]; omega), e1, e2, e3]
      refine Prod.ext ?_ ?_
      · show 0 + (x % 128 + 128) % 128 * 1 + (x / 128 % 128 + 128) % 128 * 128 + x / 128 / 128 * 16384 = x
        omega
      · rfl

theorem field_enc (k r : List UInt8) (hk : k.length < 2097152) : field (Lib.uvarint k.length ++ (k ++ r)) = some (k, r) := by
  unfold field
  rw [uvarintDec_uvarint _ _ hk]
  have hp := Lib.uvarint_pos k.length
  simp only [List.length_append]
  rw [if_neg (by omega), if_neg (by omega)]
  simp

/-- The bytes of one write. -/
def encW (o : Wr) : List UInt8 :=
  match o.val with
  | none => 2 :: (Lib.uvarint o.key.length ++ o.key)
  | some v => 1 :: (Lib.uvarint o.key.length ++ (o.key ++ (Lib.uvarint v.length ++ v)))
/-- A write within the law's cuts. -/
def Fits (o : Wr) : Prop := 0 < o.key.length ∧ o.key.length ≤ 4096 ∧ ∀ v, o.val = some v → v.length ≤ 65536

theorem wr1_enc (o : Wr) (h : Fits o) (r : List UInt8) : wr1 (encW o ++ r) = some (o, r) := by
  obtain ⟨key, val⟩ := o
  obtain ⟨h1, h2, h3⟩ := h
  simp only at h1 h2 h3
  cases val with
  | none =>
    show wr1 (2 :: (Lib.uvarint key.length ++ key ++ r)) = _
    rw [wr1_cons, List.append_assoc, field_enc _ _ (by omega)]
    simp only
    rw [if_neg (by omega)]
    rfl
  | some v =>
    have h4 := h3 v rfl
    show wr1 (1 :: (Lib.uvarint key.length ++ (key ++ (Lib.uvarint v.length ++ v)) ++ r)) = _
    rw [wr1_cons, List.append_assoc, List.append_assoc, field_enc _ _ (by omega)]
    simp only
    rw [if_neg (by omega), if_pos trivial, List.append_assoc, field_enc _ _ (by omega)]
    simp only
    rw [if_neg (by omega)]

def encAll (os : List Wr) : List UInt8 := os.flatMap encW
theorem encAll_snoc (os : List Wr) (o : Wr) : encAll (os ++ [o]) = encAll os ++ encW o := by simp [encAll]
theorem dec_encAll : ∀ os : List Wr, (∀ o ∈ os, Fits o) → dec (encAll os) = some os
  | [], _ => rfl
  | o :: os, h => by
    have e : encAll (o :: os) = encW o ++ encAll os := by simp [encAll]
    rw [e, dec_step (wr1_enc o (h o (by simp)) _), dec_encAll os (fun x hx => h x (by simp [hx]))]
    rfl

theorem encW_len (o : Wr) (h : Fits o) : (encW o).length ≤ 69653 := by
  obtain ⟨key, val⟩ := o
  obtain ⟨h1, h2, h3⟩ := h
  simp only at h1 h2 h3
  have hk := Lib.uvarint_length64 (x := key.length) (by omega)
  cases val with
  | none => simp only [encW, List.length_cons, List.length_append]; omega
  | some v =>
    have h4 := h3 v rfl
    have hv := Lib.uvarint_length64 (x := v.length) (by omega)
    simp only [encW, List.length_cons, List.length_append]; omega
theorem encAll_len (os : List Wr) (h : ∀ o ∈ os, Fits o) : (encAll os).length ≤ 69653 * os.length := by
  induction os with
  | nil => simp [encAll]
  | cons o os ih =>
    have e : encAll (o :: os) = encW o ++ encAll os := by simp [encAll]
    have h1 := encW_len o (h o (by simp))
    have h2 := ih (fun x hx => h x (by simp [hx]))
    rw [e, List.length_append, List.length_cons]
    omega

end Go.Proofs.YbulkbgzmFmt
