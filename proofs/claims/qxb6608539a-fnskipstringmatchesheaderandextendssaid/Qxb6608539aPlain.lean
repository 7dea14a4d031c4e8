/-
  THE PLAIN LAW of seat b6608539a: no Go in sight. 'Lib.uvarintDec' is the shelf's own decoder.
-/
import Derived.Lib.VarintDec
namespace Go.Proofs.Qxb6608539a.Plain
open Go.Lib

/-! ### the decoder and prefixes -/
theorem from_app (r : List UInt8) : ∀ (l : List UInt8) (i acc : Nat), 0 < (uvarintFrom i acc l).2 → uvarintFrom i acc (l ++ r) = uvarintFrom i acc l
  | [], i, acc, h => by simp [uvarintFrom] at h
  | b :: t, i, acc, h => by
    simp only [List.cons_append, uvarintFrom] at h ⊢
    by_cases h1 : i = 10
    · simp [h1] at h
    · simp only [if_neg h1] at h ⊢
      by_cases h2 : b.toNat < 128
      · simp only [if_pos h2]
      · simp only [if_neg h2] at h ⊢
        exact from_app r t _ _ h

theorem from_bd : ∀ (l : List UInt8) (i acc : Nat), 0 < (uvarintFrom i acc l).2 → (i : Int) < (uvarintFrom i acc l).2 ∧ (uvarintFrom i acc l).2 ≤ i + l.length
  | [], i, acc, h => by simp [uvarintFrom] at h
  | b :: t, i, acc, h => by
    simp only [uvarintFrom] at h ⊢
    by_cases h1 : i = 10
    · simp [h1] at h
    · simp only [if_neg h1] at h ⊢
      by_cases h2 : b.toNat < 128
      · simp only [if_pos h2] at h ⊢
        by_cases h3 : i = 9 ∧ 1 < b.toNat
        · simp only [if_pos h3] at h; omega
        · simp only [if_neg h3]; simp only [List.length_cons]; omega
      · simp only [if_neg h2] at h ⊢
        have := from_bd t _ _ h
        simp only [List.length_cons]; omega

theorem from_take : ∀ (l : List UInt8) (i acc k : Nat), 0 < (uvarintFrom i acc l).2 → (uvarintFrom i acc l).2 ≤ i + k → uvarintFrom i acc (l.take k) = uvarintFrom i acc l
  | [], i, acc, k, h, _ => by simp [uvarintFrom] at h
  | b :: t, i, acc, 0, h, hk => by have := (from_bd (b :: t) i acc h).1; omega
  | b :: t, i, acc, k + 1, h, hk => by
    simp only [List.take_succ_cons, uvarintFrom] at h hk ⊢
    by_cases h1 : i = 10
    · simp [h1] at h
    · simp only [if_neg h1] at h hk ⊢
      by_cases h2 : b.toNat < 128
      · simp only [if_pos h2]
      · simp only [if_neg h2] at h hk ⊢
        exact from_take t _ _ k h (by omega)

/-- where the string that l begins with ends -/
def skipAt (l : List UInt8) : Option Nat :=
  if (uvarintDec l).2 ≤ 0 then none else if l.length - (uvarintDec l).2.toNat < (uvarintDec l).1 then none else some ((uvarintDec l).2.toNat + (uvarintDec l).1)

theorem dec_bd (l : List UInt8) (h : 0 < (uvarintDec l).2) : (uvarintDec l).2 ≤ l.length := by
  have := (from_bd l 0 0 h).2; unfold uvarintDec; omega

theorem skipAt_some {l : List UInt8} {c : Nat} (h : skipAt l = some c) : 0 < (uvarintDec l).2 ∧ (uvarintDec l).1 ≤ l.length - (uvarintDec l).2.toNat ∧ c = (uvarintDec l).2.toNat + (uvarintDec l).1 := by
  unfold skipAt at h
  by_cases h1 : (uvarintDec l).2 ≤ 0
  · rw [if_pos h1] at h; cases h
  · rw [if_neg h1] at h
    by_cases h2 : l.length - (uvarintDec l).2.toNat < (uvarintDec l).1
    · rw [if_pos h2] at h; cases h
    · rw [if_neg h2] at h; cases h; exact ⟨by omega, by omega, rfl⟩

theorem skipAt_le {l : List UInt8} {c : Nat} (h : skipAt l = some c) : c ≤ l.length := by
  obtain ⟨h1, h2, h3⟩ := skipAt_some h
  have := dec_bd l h1; omega

theorem skipAt_mk {l : List UInt8} (h1 : 0 < (uvarintDec l).2) (h2 : (uvarintDec l).1 ≤ l.length - (uvarintDec l).2.toNat) : skipAt l = some ((uvarintDec l).2.toNat + (uvarintDec l).1) := by
  unfold skipAt; rw [if_neg (by omega), if_neg (by omega)]

theorem skipAt_app {l : List UInt8} {c : Nat} (r : List UInt8) (h : skipAt l = some c) : skipAt (l ++ r) = some c := by
  obtain ⟨h1, h2, h3⟩ := skipAt_some h
  have e : uvarintDec (l ++ r) = uvarintDec l := from_app r l 0 0 h1
  have := dec_bd l h1
  rw [skipAt_mk (by rw [e]; exact h1) (by rw [e, List.length_append]; omega), e, h3]

theorem skipAt_take_none {l : List UInt8} (k : Nat) (h : skipAt l = none) : skipAt (l.take k) = none := by
  cases h1 : skipAt (l.take k) with
  | none => rfl
  | some c => have := skipAt_app (l.drop k) h1; rw [List.take_append_drop, h] at this; cases this

theorem skipAt_take_lt {l : List UInt8} {c : Nat} (k : Nat) (h : skipAt l = some c) (hk : k < c) : skipAt (l.take k) = none := by
  cases h1 : skipAt (l.take k) with
  | none => rfl
  | some c' =>
    have h2 := skipAt_app (l.drop k) h1
    rw [List.take_append_drop, h] at h2
    have h3 := skipAt_le h1
    have : c = c' := by cases h2; rfl
    simp only [List.length_take] at h3; omega

theorem skipAt_take_ge {l : List UInt8} {c : Nat} (k : Nat) (h : skipAt l = some c) (hk : c ≤ k) : skipAt (l.take k) = some c := by
  obtain ⟨h1, h2, h3⟩ := skipAt_some h
  have hb := dec_bd l h1
  have e : uvarintDec (l.take k) = uvarintDec l := from_take l 0 0 k h1 (by show (uvarintDec l).2 ≤ _; omega)
  rw [skipAt_mk (by rw [e]; exact h1) (by rw [e, List.length_take]; omega), e, h3]

/-! ### the header, found and folded the other way -/
/-- the j-th byte as a number -/
def nb (l : List UInt8) (j : Nat) : Nat := (l.getD j 0).toNat
theorem nb_le (l : List UInt8) (j : Nat) : nb l j ≤ 255 := by have := (l.getD j 0).toNat_lt; unfold nb; omega

/-- what the first t bytes' seven bits spell -/
def val (l : List UInt8) : Nat → Nat
  | 0 => 0
  | t + 1 => val l t + nb l t % 128 * 2 ^ (7 * t)

/-- the fold from the last byte down -/
def hi (l : List UInt8) (t : Nat) : Nat → Nat
  | 0 => nb l t
  | m + 1 => hi l t m * 128 + nb l (t - 1 - m) % 128

theorem drop_cons {l : List UInt8} {t : Nat} (h : t < l.length) : ∃ b, l.drop t = b :: l.drop (t + 1) ∧ b.toNat = nb l t := by
  refine ⟨l[t], List.drop_eq_getElem_cons h, ?_⟩
  simp [nb, List.getD, h]

theorem dec_from (l : List UInt8) : ∀ t : Nat, t ≤ 10 → t ≤ l.length → (∀ j, j < t → 128 ≤ nb l j) → uvarintDec l = uvarintFrom t (val l t) (l.drop t)
  | 0, _, _, _ => by simp [uvarintDec, val]
  | t + 1, h1, h2, h3 => by
    rw [dec_from l t (by omega) (by omega) (fun j hj => h3 j (by omega))]
    obtain ⟨b, e, hb⟩ := drop_cons (l := l) (t := t) (by omega)
    have := h3 t (by omega)
    rw [e, uvarintFrom, if_neg (by omega), if_neg (by omega), hb]; rfl

theorem hi_val (l : List UInt8) (t : Nat) : ∀ m, m ≤ t → val l (t - m) + hi l t m * 2 ^ (7 * (t - m)) = val l t + nb l t * 2 ^ (7 * t)
  | 0, _ => by simp [hi]
  | m + 1, hm => by
    rw [← hi_val l t m (by omega)]
    obtain ⟨s, hs⟩ : ∃ s, t - m = s + 1 := ⟨t - m - 1, by omega⟩
    have e1 : t - (m + 1) = s := by omega
    have e2 : t - 1 - m = s := by omega
    rw [hs, e1]
    simp only [hi, val, e2]
    have : 2 ^ (7 * (s + 1)) = 128 * 2 ^ (7 * s) := by rw [Nat.mul_add, Nat.pow_add, Nat.mul_comm]
    rw [this, Nat.add_mul, Nat.mul_assoc]; omega

/-- a header that is whole -/
theorem dec_ok (l : List UInt8) (t : Nat) (h1 : t ≤ 9) (h2 : t < l.length) (h3 : ∀ j, j < t → 128 ≤ nb l j) (h4 : nb l t < 128) (h5 : t = 9 → nb l t ≤ 1) : uvarintDec l = (hi l t t, (t : Int) + 1) := by
  rw [dec_from l t (by omega) (by omega) h3]
  obtain ⟨b, e, hb⟩ := drop_cons h2
  have hv := hi_val l t t (Nat.le_refl _)
  simp [val] at hv
  rw [e, uvarintFrom, if_neg (by omega), if_pos (by omega), if_neg (by omega), hb, hv]

/-- one that is not -/
theorem dec_short (l : List UInt8) (t : Nat) (h1 : t ≤ 10) (h2 : t = l.length ∨ (t = 10 ∧ t ≤ l.length)) (h3 : ∀ j, j < t → 128 ≤ nb l j) : (uvarintDec l).2 ≤ 0 := by
  rw [dec_from l t h1 (by omega) h3]
  rcases h2 with h2 | ⟨rfl, h2⟩
  · rw [List.drop_eq_nil_of_le (by omega)]; simp [uvarintFrom]
  · cases l.drop 10 with
    | nil => simp [uvarintFrom]
    | cons b r => simp [uvarintFrom]
theorem dec_over (l : List UInt8) (h2 : 9 < l.length) (h3 : ∀ j, j < 9 → 128 ≤ nb l j) (h4 : nb l 9 < 128) (h5 : 1 < nb l 9) : (uvarintDec l).2 ≤ 0 := by
  rw [dec_from l 9 (by omega) (by omega) h3]
  obtain ⟨b, e, hb⟩ := drop_cons h2
  rw [e, uvarintFrom, if_neg (by omega), if_pos (by omega), if_pos (by omega)]; decide

/-- no shift of the fold leaves 64 bits -/
theorem hi_lt (l : List UInt8) (t m : Nat) (hm : m ≤ t) (h1 : t ≤ 9) (h2 : t < l.length) (h3 : ∀ j, j < t → 128 ≤ nb l j) (h4 : nb l t < 128) (h5 : t = 9 → nb l t ≤ 1) : hi l t m < 18446744073709551616 := by
  have h := uvarintDec_lt l
  rw [dec_ok l t h1 h2 h3 h4 h5] at h
  have hv := hi_val l t m hm
  have hv' := hi_val l t t (Nat.le_refl _)
  simp only [Nat.sub_self, val, Nat.mul_zero, Nat.pow_zero, Nat.mul_one, Nat.zero_add] at hv'
  have hp : 0 < 2 ^ (7 * (t - m)) := Nat.pow_pos (by omega)
  have : hi l t m ≤ hi l t m * 2 ^ (7 * (t - m)) := Nat.le_mul_of_pos_right _ hp
  simp only at h
  omega
end Go.Proofs.Qxb6608539a.Plain
