/-
  A linear congruential generator over 2 to the 128 runs through every state. Plain numbers, no Go.
-/
namespace Go.Proofs.Qxb6609202a

def lstep (a c x : Nat) : Nat := a * x + c
def liter (a c : Nat) : Nat → Nat → Nat
  | 0, x => x
  | k + 1, x => liter a c k (lstep a c x)

theorem liter_add (a c : Nat) (j k x : Nat) : liter a c (j + k) x = liter a c k (liter a c j x) := by
  induction j generalizing x with
  | zero => rw [Nat.zero_add]; rfl
  | succ j ih => rw [Nat.add_right_comm]; exact ih _

/-- 2 to the m steps: multiply by A, add c times S; A is 1 mod 2 to the m + 2, S is 2 to the m times an odd number -/
theorem liter_pow (a c : Nat) (ha : a % 4 = 1) (m : Nat) : ∃ A S : Nat, (∀ x, liter a c (2 ^ m) x = A * x + c * S) ∧ (∃ t, A = 1 + 4 * 2 ^ m * t) ∧ ∃ u, S = 2 ^ m * (2 * u + 1) := by
  induction m with
  | zero =>
    refine ⟨a, 1, fun x => by simp [liter, lstep], ⟨a / 4, by omega⟩, 0, by simp⟩
  | succ m ih =>
    obtain ⟨A, S, h1, ⟨t, h2⟩, u, h3⟩ := ih
    refine ⟨A * A, S * (A + 1), fun x => ?_, ⟨t + 2 * 2 ^ m * t * t, ?_⟩, u + (2 * u + 1) * (2 ^ m * t), ?_⟩
    · rw [Nat.pow_succ, Nat.mul_two, liter_add, h1, h1]
      rw [Nat.mul_add, ← Nat.mul_assoc, Nat.mul_add S, Nat.mul_one, Nat.mul_add c]
      have : A * (c * S) = c * (S * A) := by rw [Nat.mul_left_comm, Nat.mul_comm A S]
      rw [this, Nat.add_assoc]
    · rw [h2, Nat.pow_succ]
      generalize 2 ^ m = p
      simp only [Nat.mul_add, Nat.add_mul, Nat.mul_one, Nat.one_mul]
      have e1 : 4 * p * t * (4 * p * t) = 4 * (p * 2) * (2 * p * t * t) := by
        simp only [Nat.mul_comm, Nat.mul_left_comm, Nat.mul_assoc]
      have e2 : 4 * (p * 2) * t = 4 * p * t + 4 * p * t := by
        have : 4 * (p * 2) = 4 * p + 4 * p := by omega
        rw [this, Nat.add_mul]
      rw [e1, e2]; omega
    · rw [h3, h2, Nat.pow_succ]
      generalize 2 ^ m = p
      have : 1 + 4 * p * t + 1 = 2 * (1 + 2 * (p * t)) := by
        rw [Nat.mul_assoc 4 p t]; omega
      rw [this]
      generalize p * t = q
      have : p * (2 * u + 1) * (2 * (1 + 2 * q)) = p * 2 * ((2 * u + 1) * (1 + 2 * q)) := by
        simp only [Nat.mul_comm, Nat.mul_left_comm, Nat.mul_assoc]
      rw [this]
      congr 1
      rw [Nat.mul_add, Nat.mul_one, Nat.mul_left_comm]
      omega

theorem liter_reach (a c : Nat) (ha : a % 4 = 1) (hc : c % 2 = 1) (m : Nat) : ∀ x y, ∃ k, liter a c k x % 2 ^ m = y % 2 ^ m := by
  induction m with
  | zero => intro x y; exact ⟨0, by simp [Nat.mod_one]⟩
  | succ m ih =>
    intro x y
    obtain ⟨k, hk⟩ := ih x y
    obtain ⟨A, S, h1, ⟨t, h2⟩, u, h3⟩ := liter_pow a c ha m
    have hp : 0 < 2 ^ m := Nat.pos_of_ne_zero (by simp)
    have hmod : ∀ z, z % 2 ^ (m + 1) = z % 2 ^ m ∨ z % 2 ^ (m + 1) = z % 2 ^ m + 2 ^ m := fun z => by
      rw [Nat.pow_succ, Nat.mod_mul]
      have : z / 2 ^ m % 2 = 0 ∨ z / 2 ^ m % 2 = 1 := by omega
      rcases this with h | h <;> rw [h] <;> simp
    have hstep : liter a c (k + 2 ^ m) x % 2 ^ (m + 1) = (liter a c k x + 2 ^ m) % 2 ^ (m + 1) := by
      rw [liter_add, h1]
      generalize liter a c k x = z
      obtain ⟨d, hd⟩ : ∃ d, c = 2 * d + 1 := ⟨c / 2, by omega⟩
      have e : A * z + c * S = (z + 2 ^ m) + 2 ^ (m + 1) * (2 * t * z + (d * (2 * u + 1) + u)) := by
        rw [h2, h3, hd, Nat.pow_succ]
        generalize 2 ^ m = p
        have e1 : (1 + 4 * p * t) * z = z + p * 2 * (2 * t * z) := by
          rw [Nat.add_mul, Nat.one_mul]
          congr 1
          have : 4 * p = p * 2 * 2 := by omega
          rw [this]
          simp only [Nat.mul_assoc]
        have e2 : (2 * d + 1) * (p * (2 * u + 1)) = p + p * 2 * (d * (2 * u + 1) + u) := by
          have e3 : (2 * d + 1) * (2 * u + 1) = 1 + 2 * (d * (2 * u + 1) + u) := by
            rw [Nat.add_mul, Nat.one_mul, Nat.mul_assoc]; omega
          rw [Nat.mul_left_comm, e3, Nat.mul_add, Nat.mul_one, Nat.mul_assoc]
        rw [e1, e2, Nat.mul_add (p * 2) (2 * t * z) (d * (2 * u + 1) + u)]; omega
      rw [e, Nat.add_mul_mod_self_left]
    have hl := hmod (liter a c k x)
    have hy := hmod y
    have hlt : y % 2 ^ m < 2 ^ m := Nat.mod_lt _ hp
    have key : (liter a c k x + 2 ^ m) % 2 ^ (m + 1) = (liter a c k x % 2 ^ (m + 1) + 2 ^ m) % 2 ^ (m + 1) := by rw [Nat.mod_add_mod]
    have e2 : (2 : Nat) ^ (m + 1) = 2 ^ m + 2 ^ m := by rw [Nat.pow_succ]; omega
    rcases hl with hl | hl <;> rcases hy with hy | hy
    · exact ⟨k, by rw [hl, hy, hk]⟩
    · refine ⟨k + 2 ^ m, ?_⟩
      rw [hstep, key, hl, hy, hk, Nat.mod_eq_of_lt (by omega)]
    · refine ⟨k + 2 ^ m, ?_⟩
      rw [hstep, key, hl, hy, hk]
      rw [show y % 2 ^ m + 2 ^ m + 2 ^ m = y % 2 ^ m + 2 ^ (m + 1) by omega, Nat.add_mod_right, Nat.mod_eq_of_lt (by omega)]
    · exact ⟨k, by rw [hl, hy, hk]⟩

end Go.Proofs.Qxb6609202a
