/-
  THE PLAIN LAW of FnCurrencyCodeCaseFold: lists of bytes, no Go in sight.
-/
namespace Go.Proofs.Qxb6608550a.Fold

def up (c : UInt8) : UInt8 := if 97 ≤ c.toNat ∧ c.toNat ≤ 122 then UInt8.ofNat (c.toNat - 32) else c
def lo (c : UInt8) : UInt8 := if 65 ≤ c.toNat ∧ c.toNat ≤ 90 then UInt8.ofNat (c.toNat + 32) else c
def isUp (c : UInt8) : Bool := decide (65 ≤ c.toNat ∧ c.toNat ≤ 90)
def isLet (c : UInt8) : Bool := decide ((97 ≤ c.toNat ∧ c.toNat ≤ 122) ∨ (65 ≤ c.toNat ∧ c.toNat ≤ 90))
def ccB (l : List UInt8) : Bool := decide (l.length = 3) && l.all isUp
def tlB (l : List UInt8) : Bool := decide (l.length = 3) && l.all isLet

theorem up_nat (c : UInt8) : (up c).toNat = if 97 ≤ c.toNat ∧ c.toNat ≤ 122 then c.toNat - 32 else c.toNat := by
  have := c.toNat_lt
  unfold up; split
  · simp; omega
  · rfl
theorem lo_nat (c : UInt8) : (lo c).toNat = if 65 ≤ c.toNat ∧ c.toNat ≤ 90 then c.toNat + 32 else c.toNat := by
  have := c.toNat_lt
  unfold lo; split
  · simp; omega
  · rfl
theorem isUp_up (c : UInt8) : isUp (up c) = isLet c := by
  unfold isUp isLet; rw [up_nat]
  by_cases h : 97 ≤ c.toNat ∧ c.toNat ≤ 122
  · simp only [if_pos h]; rw [Bool.eq_iff_iff]; simp; omega
  · simp only [if_neg h]; rw [Bool.eq_iff_iff]; simp; omega
theorem isUp_lo (c : UInt8) : isUp (lo c) = false := by
  unfold isUp; rw [lo_nat]
  by_cases h : 65 ≤ c.toNat ∧ c.toNat ≤ 90
  · simp only [if_pos h]; simp; omega
  · simp only [if_neg h]; simp; omega
theorem up_id {c : UInt8} (h : isUp c = true) : up c = c := by
  unfold isUp at h; unfold up; rw [if_neg (by simp at h; omega)]
theorem isUp_of {c : UInt8} (h : isLet c = true) (e : up c = c) : isUp c = true := by
  rw [← isUp_up, e] at h; exact h

theorem cc_up (l : List UInt8) : ccB (l.map up) = tlB l := by
  unfold ccB tlB
  rw [List.length_map, List.all_map]
  congr 2
  funext c; exact isUp_up c
theorem cc_lo (l : List UInt8) : ccB (l.map lo) = false := by
  unfold ccB
  rw [List.length_map, List.all_map]
  cases l with
  | nil => rfl
  | cons c r => simp [isUp_lo]
theorem map_up_id : ∀ {l : List UInt8}, l.all isUp = true → l.map up = l
  | [], _ => rfl
  | c :: r, h => by
    simp only [List.all_cons, Bool.and_eq_true] at h
    rw [List.map_cons, up_id h.1, map_up_id h.2]
theorem all_of : ∀ {l : List UInt8}, l.all isLet = true → l.map up = l → l.all isUp = true
  | [], _, _ => rfl
  | c :: r, h, e => by
    simp only [List.all_cons, Bool.and_eq_true] at h
    simp only [List.map_cons, List.cons.injEq] at e
    simp only [List.all_cons, Bool.and_eq_true]
    exact ⟨isUp_of h.1 e.1, all_of h.2 e.2⟩
/-- s itself: where its upper-casing is no code, it is none -/
theorem cc_no {l : List UInt8} (h : tlB l = false) : ccB l = false := by
  cases hc : ccB l with
  | false => rfl
  | true =>
    have h' := hc
    unfold ccB at hc
    simp only [Bool.and_eq_true] at hc
    rw [← cc_up, map_up_id hc.2, h'] at h
    exact h
theorem cc_yes {l : List UInt8} (h : tlB l = true) (e : l.map up = l) : ccB l = true := by
  unfold tlB at h; unfold ccB
  simp only [Bool.and_eq_true] at h ⊢
  exact ⟨h.1, all_of h.2 e⟩
theorem cc_not {l : List UInt8} (e : ¬ l.map up = l) : ccB l = false := by
  cases hc : ccB l with
  | false => rfl
  | true =>
    unfold ccB at hc
    simp only [Bool.and_eq_true] at hc
    exact absurd (map_up_id hc.2) e
end Go.Proofs.Qxb6608550a.Fold
