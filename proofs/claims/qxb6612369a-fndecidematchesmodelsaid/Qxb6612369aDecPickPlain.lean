import Derived.Test.Qxb6612369aDecPlain
namespace Go.Proofs.Qxb6612369a

/-- of the rows in L, in order, those that cancel step i -/
def keepI (R : Nat → Nat → Int) (i : Nat) (L : List Nat) : List Nat := L.filter fun k => R k i == 5

/-- the rows that are left behind the first i steps -/
def pickTo (P : Nat → Int) (R : Nat → Nat → Int) (L0 : List Nat) : Nat → List Nat
  | 0 => L0
  | i + 1 => if P i = 1 ∧ keepI R i (pickTo P R L0 i) ≠ [] then keepI R i (pickTo P R L0 i) else pickTo P R L0 i

def fitTo (fit : Nat → Bool) (k : Nat) : List Nat := (List.range k).filter fit

theorem fitTo_succ (fit : Nat → Bool) (k : Nat) : fitTo fit (k + 1) = fitTo fit k ++ (if fit k then [k] else []) := by
  unfold fitTo
  rw [List.range_succ, List.filter_append]
  cases h : fit k <;> simp [h]

theorem fitTo_length (fit : Nat → Bool) (k : Nat) : (fitTo fit k).length ≤ k := by
  unfold fitTo
  have := List.length_filter_le fit (List.range k)
  simpa using this

theorem mem_fitTo {fit : Nat → Bool} {k x : Nat} : x ∈ fitTo fit k ↔ x < k ∧ fit x = true := by simp [fitTo]

theorem keepI_take (R : Nat → Nat → Int) (i : Nat) (L : List Nat) (j : Nat) (hj : j < L.length) : keepI R i (L.take (j + 1)) = keepI R i (L.take j) ++ (if R L[j] i == 5 then [L[j]] else []) := by
  unfold keepI
  rw [List.take_succ_eq_append_getElem hj, List.filter_append]
  cases h : (R L[j] i == 5) <;> simp [h]

theorem keepI_length (R : Nat → Nat → Int) (i : Nat) (L : List Nat) (j : Nat) : (keepI R i (L.take j)).length ≤ L.length := by
  unfold keepI
  have h1 := List.length_filter_le (fun k => R k i == 5) (L.take j)
  have h2 := List.length_take_le' j L
  omega

theorem pickTo_sub (P : Nat → Int) (R : Nat → Nat → Int) (L0 : List Nat) (i x : Nat) (h : x ∈ pickTo P R L0 i) : x ∈ L0 := by
  induction i with
  | zero => exact h
  | succ i ih =>
    simp only [pickTo] at h
    split at h
    · exact ih (List.mem_filter.1 h).1
    · exact ih h

theorem pickTo_length (P : Nat → Int) (R : Nat → Nat → Int) (L0 : List Nat) (i : Nat) : (pickTo P R L0 i).length ≤ L0.length := by
  induction i with
  | zero => exact Nat.le_refl _
  | succ i ih =>
    simp only [pickTo]
    split
    · exact Nat.le_trans (List.length_filter_le _ _) ih
    · exact ih

theorem pickTo_nil (P : Nat → Int) (R : Nat → Nat → Int) (L0 : List Nat) (i : Nat) : pickTo P R L0 i = [] ↔ L0 = [] := by
  induction i with
  | zero => exact Iff.rfl
  | succ i ih =>
    simp only [pickTo]
    split
    · next h => exact ⟨fun e => absurd e h.2, fun e => by have := ih.2 e; simp [keepI, this]⟩
    · exact ih

end Go.Proofs.Qxb6612369a
