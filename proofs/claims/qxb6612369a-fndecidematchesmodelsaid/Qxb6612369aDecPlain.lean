/-
  Plain functions: what the decision's Go functions compute. No Go here.
-/
import Derived.Test.Qxb6612369aBase
namespace Go.Proofs.Qxb6612369a

/-- may a step in phase p be driven to state st (c: it has a compensation) -/
def fs (c : Bool) (p st : Int) : Bool :=
  if p = 0 then st == 4 else if p = 1 then (st == 5 || st == 1 || (st == 3 && c)) else if p = 4 then st == 5 else if p = 2 then (st == 1 || (st == 3 && c)) else if p = 3 then st == 2 else false

/-- the same, by the state -/
def reach (p : Int) (c : Bool) (st : Int) : Bool :=
  if st = 4 then p == 0 else if st = 1 then (p == 1 || p == 2) else if st = 3 then (c && (p == 1 || p == 2)) else if st = 5 then (p == 1 || p == 4) else if st = 2 then p == 3 else false

theorem reach_eq (p : Int) (c : Bool) (st : Int) : reach p c st = fs c p st := by
  unfold reach fs
  by_cases h0 : p = 0
  · subst h0; by_cases s1 : st = 4 <;> by_cases s2 : st = 1 <;> by_cases s3 : st = 3 <;> by_cases s4 : st = 5 <;> by_cases s5 : st = 2 <;> simp_all
  by_cases h1 : p = 1
  · subst h1; by_cases s1 : st = 4 <;> by_cases s2 : st = 1 <;> by_cases s3 : st = 3 <;> by_cases s4 : st = 5 <;> by_cases s5 : st = 2 <;> simp_all
  by_cases h2 : p = 2
  · subst h2; by_cases s1 : st = 4 <;> by_cases s2 : st = 1 <;> by_cases s3 : st = 3 <;> by_cases s4 : st = 5 <;> by_cases s5 : st = 2 <;> simp_all
  by_cases h3 : p = 3
  · subst h3; by_cases s1 : st = 4 <;> by_cases s2 : st = 1 <;> by_cases s3 : st = 3 <;> by_cases s4 : st = 5 <;> by_cases s5 : st = 2 <;> simp_all
  by_cases h4 : p = 4
  · subst h4; by_cases s1 : st = 4 <;> by_cases s2 : st = 1 <;> by_cases s3 : st = 3 <;> by_cases s4 : st = 5 <;> by_cases s5 : st = 2 <;> simp_all
  · by_cases s1 : st = 4 <;> by_cases s2 : st = 1 <;> by_cases s3 : st = 3 <;> by_cases s4 : st = 5 <;> by_cases s5 : st = 2 <;> simp_all

/-- the default answer's state -/
def dflt (c : Bool) (p : Int) : Int :=
  if p = 1 ∨ p = 4 then 5 else if p = 3 then 2 else if p = 2 then (if c then 3 else 1) else 4

/-- all of the first n hold -/
def allTo (q : Nat → Bool) : Nat → Bool
  | 0 => true
  | n + 1 => allTo q n && q n

theorem allTo_iff (q : Nat → Bool) (n : Nat) : allTo q n = true ↔ ∀ i, i < n → q i = true := by
  induction n with
  | zero => simp [allTo]
  | succ n ih =>
    simp only [allTo, Bool.and_eq_true, ih]
    constructor
    · rintro ⟨h1, h2⟩ i hi
      by_cases e : i = n
      · subst e; exact h2
      · exact h1 i (by omega)
    · intro h; exact ⟨fun i hi => h i (by omega), h n (by omega)⟩

/-- how many of the first n are 3 (failed) -/
def nFail (p : Nat → Int) : Nat → Nat
  | 0 => 0
  | n + 1 => nFail p n + (if p n = 3 then 1 else 0)

theorem nFail_le (p : Nat → Int) (n : Nat) : nFail p n ≤ n := by
  induction n with
  | zero => simp [nFail]
  | succ n ih => simp only [nFail]; split <;> omega

end Go.Proofs.Qxb6612369a
