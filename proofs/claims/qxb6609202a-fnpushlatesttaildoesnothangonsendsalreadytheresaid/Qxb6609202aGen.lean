/-
  A generator of two words whose pair is a linear congruential generator: it comes to every state; drawing anew ends. Over letters, so that no great numeral stands in the way.
-/
import Derived.Test.Qxb6609202aLcg
namespace Go.Proofs.Qxb6609202a

/-- the state k steps on -/
def stepsG (nh : Nat → Nat → Nat) (nl : Nat → Nat) : Nat → Nat × Nat → Nat × Nat
  | 0, s => s
  | k + 1, s => stepsG nh nl k (nh s.1 s.2, nl s.2)

/-- draw anew, at most so many times, till the draw is good -/
def contG (ok : Nat → Nat → Bool) (val : Nat → Nat → Nat) (nh : Nat → Nat → Nat) (nl : Nat → Nat) : Nat → Nat → Nat → Option (Nat × Nat × Nat)
  | 0, h, l => if ok h l then some (val h l, h, l) else none
  | k + 1, h, l => if ok h l then some (val h l, h, l) else contG ok val nh nl k (nh h l) (nl l)

section
variable {nh : Nat → Nat → Nat} {nl : Nat → Nat} {M a c N : Nat}

theorem liter_modG (k x : Nat) : liter a c k (x % N) % N = liter a c k x % N := by
  induction k generalizing x with
  | zero => simp [liter]
  | succ k ih =>
    simp only [liter]
    rw [← ih (lstep a c (x % N)), ← ih (lstep a c x)]
    have : lstep a c (x % N) % N = lstep a c x % N := by
      unfold lstep
      rw [Nat.add_mod, Nat.mul_mod, Nat.mod_mod, ← Nat.mul_mod, ← Nat.add_mod]
    rw [this]

theorem stepsG_lin (hlin : ∀ h l, nh h l * M + nl l = (a * (h * M + l) + c) % N) (hnh : ∀ h l, nh h l < M) (hnl : ∀ l, nl l < M) (hN : M * M = N) (k h l : Nat) (hh : h < M) (hl : l < M) :
    (stepsG nh nl k (h, l)).1 * M + (stepsG nh nl k (h, l)).2 = liter a c k (h * M + l) % N ∧ (stepsG nh nl k (h, l)).1 < M ∧ (stepsG nh nl k (h, l)).2 < M := by
  induction k generalizing h l with
  | zero =>
    simp only [stepsG, liter]
    refine ⟨?_, hh, hl⟩
    rw [Nat.mod_eq_of_lt]
    rw [← hN]
    have h1 : (h + 1) * M ≤ M * M := Nat.mul_le_mul_right M hh
    rw [Nat.add_mul, Nat.one_mul] at h1
    omega
  | succ k ih =>
    simp only [stepsG, liter]
    have := ih (nh h l) (nl l) (hnh h l) (hnl l)
    refine ⟨?_, this.2⟩
    rw [this.1, hlin, liter_modG]
    simp only [lstep]

theorem pair_unique {x1 y1 x2 y2 : Nat} (h1 : y1 < M) (h2 : y2 < M) (e : x1 * M + y1 = x2 * M + y2) : x1 = x2 ∧ y1 = y2 := by
  have hM : 0 < M := by omega
  have e1 : x1 = x2 := by
    have a1 : (x1 * M + y1) / M = x1 := by rw [Nat.mul_comm, Nat.mul_add_div hM, Nat.div_eq_of_lt h1, Nat.add_zero]
    have a2 : (x2 * M + y2) / M = x2 := by rw [Nat.mul_comm, Nat.mul_add_div hM, Nat.div_eq_of_lt h2, Nat.add_zero]
    rw [← a1, e, a2]
  subst e1
  exact ⟨rfl, by omega⟩

theorem stepsG_reach (hlin : ∀ h l, nh h l * M + nl l = (a * (h * M + l) + c) % N) (hnh : ∀ h l, nh h l < M) (hnl : ∀ l, nl l < M) (hN : M * M = N) (hp : ∃ m, N = 2 ^ m) (ha : a % 4 = 1) (hc : c % 2 = 1)
    (h l h' l' : Nat) (hh : h < M) (hl : l < M) (hh' : h' < M) (hl' : l' < M) : ∃ k, stepsG nh nl k (h, l) = (h', l') := by
  obtain ⟨m, hm⟩ := hp
  obtain ⟨k, hk⟩ := liter_reach a c ha hc m (h * M + l) (h' * M + l')
  rw [← hm] at hk
  obtain ⟨h1, h2, h3⟩ := stepsG_lin hlin hnh hnl hN k h l hh hl
  refine ⟨k, ?_⟩
  have e : (h' * M + l') % N = h' * M + l' := by
    rw [Nat.mod_eq_of_lt]
    rw [← hN]
    have h1 : (h' + 1) * M ≤ M * M := Nat.mul_le_mul_right M hh'
    rw [Nat.add_mul, Nat.one_mul] at h1
    omega
  rw [hk, e] at h1
  obtain ⟨q1, q2⟩ := pair_unique h3 hl' h1
  exact Prod.ext q1 q2

theorem contG_of_ok {ok : Nat → Nat → Bool} {val : Nat → Nat → Nat} (k h l : Nat) (hk : ok (stepsG nh nl k (h, l)).1 (stepsG nh nl k (h, l)).2 = true) : ∃ r, contG ok val nh nl k h l = some r := by
  induction k generalizing h l with
  | zero => simp only [stepsG] at hk; exact ⟨_, by rw [contG, if_pos hk]⟩
  | succ k ih =>
    by_cases h0 : ok h l = true
    · exact ⟨_, by rw [contG, if_pos h0]⟩
    · simp only [stepsG] at hk
      obtain ⟨r, hr⟩ := ih (nh h l) (nl l) hk
      exact ⟨r, by rw [contG, if_neg h0]; exact hr⟩

theorem contG_bd {ok : Nat → Nat → Bool} {val : Nat → Nat → Nat} {p : Nat → Nat → Prop} {q : Nat → Prop} (hq : ∀ h l, q (val h l)) (hp : ∀ h l, p (nh h l) (nl l)) (k h l : Nat) (r : Nat × Nat × Nat) (h0 : p h l) (hr : contG ok val nh nl k h l = some r) : q r.1 ∧ p r.2.1 r.2.2 := by
  induction k generalizing h l with
  | zero =>
    rw [contG] at hr
    split at hr
    · simp at hr; subst hr; exact ⟨hq h l, h0⟩
    · simp at hr
  | succ k ih =>
    rw [contG] at hr
    split at hr
    · simp at hr; subst hr; exact ⟨hq h l, h0⟩
    · exact ih _ _ (hp h l) hr

end
end Go.Proofs.Qxb6609202a
