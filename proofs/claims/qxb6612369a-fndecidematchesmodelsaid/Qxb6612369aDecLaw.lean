import Derived.Test.Qxb6612369aDecZZ
namespace Go.Proofs.Qxb6612369a

theorem fs_two {c : Bool} {p s : Int} (h : fs c p s = true) : (s == 2) = (p == 3) := by
  unfold fs at h
  by_cases h0 : p = 0
  · subst h0; simp at h; subst h; decide
  by_cases h1 : p = 1
  · subst h1; simp at h; rcases h with (h | h) | ⟨h, _⟩ <;> subst h <;> decide
  by_cases h4 : p = 4
  · subst h4; simp at h; subst h; decide
  by_cases h2 : p = 2
  · subst h2; simp at h; rcases h with h | ⟨h, _⟩ <;> subst h <;> decide
  by_cases h3 : p = 3
  · subst h3; simp at h; subst h; decide
  · simp [h0, h1, h2, h3, h4] at h

theorem fs_dflt {c : Bool} {p : Int} (h : 0 ≤ p ∧ p ≤ 4) : fs c p (dflt c p) = true := by
  have : p = 0 ∨ p = 1 ∨ p = 2 ∨ p = 3 ∨ p = 4 := by omega
  rcases this with h | h | h | h | h <;> subst h <;> cases c <;> decide

theorem nFail_zero {P : Nat → Int} {n : Nat} (h : nFail P n = 0) : ∀ i, i < n → P i ≠ 3 := by
  induction n with
  | zero => intro i hi; omega
  | succ n ih =>
    simp only [nFail] at h
    intro i hi e
    by_cases h3 : P n = 3
    · simp [h3] at h
    · simp only [if_neg h3, Nat.add_zero] at h
      by_cases e2 : i = n
      · subst e2; exact h3 e
      · exact ih h i (by omega) e

theorem anyTo_iff (q : Nat → Bool) (n : Nat) : anyTo q n = true ↔ ∃ i, i < n ∧ q i = true := by
  induction n with
  | zero => simp [anyTo]
  | succ n ih =>
    simp only [anyTo, Bool.or_eq_true, ih]
    constructor
    · rintro (⟨i, h1, h2⟩ | h)
      · exact ⟨i, by omega, h2⟩
      · exact ⟨n, by omega, h⟩
    · rintro ⟨i, h1, h2⟩
      by_cases e : i = n
      · subst e; exact .inr h2
      · exact .inl ⟨i, by omega, h2⟩

section
variable {C : Nat → Bool} {P : Nat → Int} {R : Nat → Nat → Int} {n m : Nat}

theorem decPk_mem {x : Nat} (h : x ∈ decPk C P R n m) : x < m ∧ ∀ i, i < n → fs (C i) (P i) (R x i) = true := by
  have h1 := mem_fitTo.1 (pickTo_sub P R _ n x h)
  exact ⟨h1.1, (allTo_iff _ n).1 h1.2⟩

theorem decSt_zero (h : nFail P n = 0) (i : Nat) : decSt C P R n m i = 1 := by simp [decSt, h]

theorem decSt_fs (hP : ∀ i, i < n → 0 ≤ P i ∧ P i ≤ 4) (h : nFail P n ≠ 0) (i : Nat) (hi : i < n) : fs (C i) (P i) (decSt C P R n m i) = true := by
  unfold decSt
  rw [if_neg h]
  split
  · split
    · next x r hx => exact (decPk_mem (by rw [hx]; simp)).2 i hi
    · exact fs_dflt (hP i hi)
  · exact fs_dflt (hP i hi)

theorem decSt_two (hP : ∀ i, i < n → 0 ≤ P i ∧ P i ≤ 4) (i : Nat) (hi : i < n) : (decSt C P R n m i == 2) = (P i == 3) := by
  by_cases h : nFail P n = 0
  · rw [decSt_zero h, beq_eq_false_iff_ne.2 (nFail_zero h i hi)]; rfl
  · exact fs_two (decSt_fs hP h i hi)

/-- is the answer a row of the table -/
def isRow (st : Nat → Int) (R : Nat → Nat → Int) (n : Nat) (k : Nat) : Bool := anyTo (fun k => allTo (fun j => R k j == st j) n) k

theorem dec_verdict (hP : ∀ i, i < n → 0 ≤ P i ∧ P i ≤ 4) :
    decAcc C P R n m = (decide (nFail P n ≤ 1) && (m == 0 || isRow (decSt C P R n m) R n m)) := by
  by_cases h0 : nFail P n = 0
  · have e : decSt C P R n m = fun _ => 1 := funext fun i => decSt_zero h0 i
    rw [e]
    simp [decAcc, h0, accZ, isRow]
  by_cases h1 : nFail P n = 1
  · have hd : decide (nFail P n ≤ 1) = true := by simp [h1]
    rw [hd, Bool.true_and]
    simp only [decAcc, h1, if_true, show ((1 : Nat) = 0) = False from by simp, if_false]
    cases hp : decPk C P R n m with
    | cons x r =>
      have hx := decPk_mem (C := C) (P := P) (R := R) (n := n) (m := m) (x := x) (by rw [hp]; simp)
      have hst : decSt C P R n m = fun i => R x i := funext fun i => by simp [decSt, h1, hp]
      have : isRow (decSt C P R n m) R n m = true := (anyTo_iff _ m).2 ⟨x, hx.1, (allTo_iff _ n).2 fun j _ => by simp [hst]⟩
      simp [this]
    | nil =>
      have hst : decSt C P R n m = fun i => dflt (C i) (P i) := funext fun i => by simp [decSt, h1, hp]
      have hno : isRow (decSt C P R n m) R n m = false := by
        cases hr : isRow (decSt C P R n m) R n m with
        | false => rfl
        | true =>
          obtain ⟨k, hk, hall⟩ := (anyTo_iff _ m).1 hr
          have hall' := (allTo_iff _ n).1 hall
          have hmem : k ∈ fitTo (fun k => allTo (fun i => fs (C i) (P i) (R k i)) n) m := mem_fitTo.2 ⟨hk, (allTo_iff _ n).2 fun i hi => by
            have := hall' i hi
            simp only [hst, beq_iff_eq] at this
            rw [this]; exact fs_dflt (hP i hi)⟩
          have := (pickTo_nil P R _ n).1 hp
          rw [this] at hmem
          simp at hmem
      simp [hno]
  · have hd : decide (nFail P n ≤ 1) = false := by simp; omega
    simp [decAcc, h0, h1, hd]

end
end Go.Proofs.Qxb6612369a
