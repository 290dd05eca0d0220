import Derived.Test.Qxb6612369aDecLaw
namespace Go.Proofs.Qxb6612369a

/-- a row's cancellations of running steps among the first i, read as a binary number -/
def key (P : Nat → Int) (X : Nat → Int) : Nat → Nat
  | 0 => 0
  | i + 1 => 2 * key P X i + (if P i = 1 ∧ X i = 5 then 1 else 0)

/-- what zzCancelsMore answers from step i on, with d steps left -/
def cmFrom (P : Nat → Int) (X Y : Nat → Int) : Nat → Nat → Bool
  | _, 0 => false
  | i, d + 1 => if P i = 1 ∧ (X i == 5) ≠ (Y i == 5) then X i == 5 else cmFrom P X Y (i + 1) d

theorem key_lt_mono (P X Y : Nat → Int) {i : Nat} (h : key P Y i < key P X i) (d : Nat) : key P Y (i + d) < key P X (i + d) := by
  induction d with
  | zero => exact h
  | succ d ih =>
    rw [← Nat.add_assoc]
    simp only [key]
    split <;> split <;> omega

theorem cmFrom_key (P X Y : Nat → Int) (i d : Nat) (h : key P X i = key P Y i) : cmFrom P X Y i d = decide (key P Y (i + d) < key P X (i + d)) := by
  induction d generalizing i with
  | zero => simp [cmFrom, h]
  | succ d ih =>
    simp only [cmFrom]
    have e : i + (d + 1) = (i + 1) + d := by omega
    by_cases hc : P i = 1 ∧ (X i == 5) ≠ (Y i == 5)
    · rw [if_pos hc]
      obtain ⟨hp, hne⟩ := hc
      cases hx : (X i == 5) with
      | true =>
        have hx' : X i = 5 := by simpa using hx
        have hy' : ¬ Y i = 5 := by
          intro hy; apply hne; rw [hx]; simp [hy]
        have : key P Y (i + 1) < key P X (i + 1) := by
          simp only [key]
          rw [if_neg (fun q => hy' q.2), if_pos ⟨hp, hx'⟩, h]; omega
        have := key_lt_mono P X Y this d
        rw [e]; simp [this]
      | false =>
        have hx' : ¬ X i = 5 := by simpa using hx
        have hy' : Y i = 5 := by
          cases hy : (Y i == 5) with
          | true => simpa using hy
          | false => exact absurd (by rw [hx, hy]) hne
        have : key P X (i + 1) < key P Y (i + 1) := by
          simp only [key]
          rw [if_neg (fun q => hx' q.2), if_pos ⟨hp, hy'⟩, h]; omega
        have := key_lt_mono P Y X this d
        rw [e]; simp; omega
    · rw [if_neg hc, ih (i + 1) ?_, e]
      simp only [key]
      rw [h]
      by_cases hp : P i = 1
      · have he : (X i == 5) = (Y i == 5) := by
          cases hx : (X i == 5) <;> cases hy : (Y i == 5) <;> simp_all
        have : (X i = 5) ↔ (Y i = 5) := by
          constructor
          · intro q; have : (Y i == 5) = true := by rw [← he]; simp [q]
            simpa using this
          · intro q; have : (X i == 5) = true := by rw [he]; simp [q]
            simpa using this
        simp [hp, this]
      · simp [hp]

/-- x has the greatest f of L -/
def top (f : Nat → Nat) (L : List Nat) (x : Nat) : Bool := L.all fun y => decide (f y ≤ f x)
theorem top_iff {f : Nat → Nat} {L : List Nat} {x : Nat} : top f L x = true ↔ ∀ y, y ∈ L → f y ≤ f x := by simp [top]

theorem filter_congr' {p q : Nat → Bool} {L : List Nat} (h : ∀ x, x ∈ L → p x = q x) : L.filter p = L.filter q := by
  induction L with
  | nil => rfl
  | cons a L ih =>
    rw [List.filter_cons, List.filter_cons, h a (by simp), ih fun x hx => h x (by simp [hx])]

theorem pickTo_top (P : Nat → Int) (R : Nat → Nat → Int) (L : List Nat) (i : Nat) : pickTo P R L i = L.filter (top (fun x => key P (R x) i) L) := by
  induction i with
  | zero =>
    simp only [pickTo]
    symm
    rw [List.filter_eq_self]
    intro x _
    rw [top_iff]; intro y _; simp [key]
  | succ i ih =>
    simp only [pickTo]
    have hk : ∀ x, key P (R x) (i + 1) = 2 * key P (R x) i + (if P i = 1 ∧ R x i = 5 then 1 else 0) := fun _ => rfl
    have hbit : ∀ x, (if P i = 1 ∧ R x i = 5 then 1 else 0) ≤ 1 := fun x => by split <;> omega
    by_cases hc : P i = 1 ∧ keepI R i (pickTo P R L i) ≠ []
    · rw [if_pos hc]
      obtain ⟨hp, hne⟩ := hc
      rw [ih] at hne ⊢
      unfold keepI at hne ⊢
      rw [List.filter_filter]
      obtain ⟨z, hz⟩ := List.exists_mem_of_ne_nil _ hne
      rw [List.mem_filter, List.mem_filter, top_iff] at hz
      obtain ⟨⟨hzL, hzt⟩, hz5⟩ := hz
      have hz5' : R z i = 5 := by simpa using hz5
      apply filter_congr'
      intro x hx
      rw [Bool.eq_iff_iff, Bool.and_eq_true, top_iff, top_iff]
      constructor
      · rintro ⟨h5, ht⟩ y hy
        have h5' : R x i = 5 := by simpa using h5
        rw [hk, hk, if_pos (c := P i = 1 ∧ R x i = 5) ⟨hp, h5'⟩]
        have := ht y hy
        have := hbit y
        omega
      · intro ht
        have h1 := ht z hzL
        rw [hk, hk, if_pos (c := P i = 1 ∧ R z i = 5) ⟨hp, hz5'⟩] at h1
        have h2 := hzt x hx
        by_cases h5 : R x i = 5
        · rw [if_pos ⟨hp, h5⟩] at h1
          exact ⟨by simp [h5], fun y hy => by have := hzt y hy; omega⟩
        · rw [if_neg (fun q => h5 q.2)] at h1; omega
    · rw [if_neg hc, ih]
      have hno : ∀ x, x ∈ L → top (fun x => key P (R x) i) L x = true → ¬ (P i = 1 ∧ R x i = 5) := by
        intro x hx ht hq
        apply hc
        refine ⟨hq.1, fun e => ?_⟩
        have : x ∈ keepI R i (pickTo P R L i) := by
          unfold keepI
          rw [ih, List.mem_filter, List.mem_filter]
          exact ⟨⟨hx, ht⟩, by simp [hq.2]⟩
        rw [e] at this
        simp at this
      apply filter_congr'
      intro x hx
      rw [Bool.eq_iff_iff]
      constructor
      · intro ht
        have hnx := hno x hx ht
        rw [top_iff] at ht ⊢
        intro y hy
        rw [hk, hk, if_neg hnx]
        have h1 := ht y hy
        by_cases e : key P (R y) i = key P (R x) i
        · have hty : top (fun x => key P (R x) i) L y = true := by
            rw [top_iff]; intro u hu; have := ht u hu; omega
          rw [if_neg (hno y hy hty)]; omega
        · have := hbit y; omega
      · intro ht
        rw [top_iff] at ht ⊢
        intro y hy
        have h1 := ht y hy
        rw [hk, hk] at h1
        have := hbit x
        omega

/-- the first of the greatest, as the model finds it -/
def bestTo (f : Nat → Nat) (fit : Nat → Bool) : Nat → Option Nat
  | 0 => none
  | k + 1 => if fit k then (match bestTo f fit k with | none => some k | some b => if f b < f k then some k else some b) else bestTo f fit k

theorem bestTo_find (f : Nat → Nat) (fit : Nat → Bool) (k : Nat) : bestTo f fit k = (fitTo fit k).find? (top f (fitTo fit k)) ∧ (bestTo f fit k = none ↔ fitTo fit k = []) := by
  induction k with
  | zero => simp [bestTo, fitTo]
  | succ k ih =>
    obtain ⟨ih1, ih2⟩ := ih
    simp only [bestTo]
    rw [fitTo_succ]
    cases hf : fit k with
    | false =>
      simp only [Bool.false_eq_true, if_false, List.append_nil]
      exact ⟨ih1, ih2⟩
    | true =>
      simp only [if_true]
      generalize fitTo fit k = L at ih1 ih2
      generalize bestTo f fit k = o at ih1 ih2
      cases o with
      | none =>
        have := ih2.1 rfl
        subst this
        simp [top]
      | some b =>
        have hb := List.find?_some ih1.symm
        have hbL := List.mem_of_find?_eq_some ih1.symm
        rw [top_iff] at hb
        refine ⟨?_, ?_⟩
        · by_cases hlt : f b < f k
          · simp only [if_pos hlt]
            rw [List.find?_append]
            have hnone : L.find? (top f (L ++ [k])) = none := by
              rw [List.find?_eq_none]
              intro x hx ht
              rw [top_iff] at ht
              have h1 := ht k (by simp)
              have h2 := hb x hx
              omega
            have htk : top f (L ++ [k]) k = true := by
              rw [top_iff]; intro y hy
              rw [List.mem_append] at hy
              rcases hy with hy | hy
              · have := hb y hy; omega
              · simp at hy; subst hy; exact Nat.le_refl _
            rw [hnone]; simp [htk]
          · simp only [if_neg hlt]
            rw [List.find?_append]
            have hsame : L.find? (top f (L ++ [k])) = L.find? (top f L) := by
              apply find_congr'
              intro x hx
              rw [Bool.eq_iff_iff, top_iff, top_iff]
              constructor
              · intro h y hy; exact h y (by simp [hy])
              · intro h y hy
                rw [List.mem_append] at hy
                rcases hy with hy | hy
                · exact h y hy
                · simp at hy; subst hy
                  have := h b hbL; omega
            rw [hsame, ← ih1]; rfl
        · simp only [List.append_eq_nil_iff]
          constructor
          · intro h; split at h <;> simp at h
          · intro h; simp at h
where
  find_congr' {p q : Nat → Bool} {L : List Nat} (h : ∀ x, x ∈ L → p x = q x) : L.find? p = L.find? q := by
    induction L with
    | nil => rfl
    | cons a L ih => rw [List.find?_cons, List.find?_cons, h a (by simp), ih fun x hx => h x (by simp [hx])]

/-- the model's best row is the row that decide picks -/
theorem best_pick (C : Nat → Bool) (P : Nat → Int) (R : Nat → Nat → Int) (n m : Nat) :
    bestTo (fun x => key P (R x) n) (fun k => allTo (fun i => fs (C i) (P i) (R k i)) n) m = (decPk C P R n m).head? := by
  rw [(bestTo_find _ _ m).1]
  unfold decPk
  rw [pickTo_top, List.head?_filter]

end Go.Proofs.Qxb6612369a
