import Derived.Test.Qxb6609301aLaw3
import Derived.Test.Qxb6609301aBytes4
import Derived.ArgAppend
namespace Go.Proofs.Qxb6609301a
open Go.RowKit

/-- what the outer loop knows ahead of its round i: the runs of the symbols met so far end at k -/
structure Inv (S : Nat → ByteArray) (n i k : Nat) : Prop where
  le : i ≤ k
  bd : k ≤ n
  zero : i = 0 → k = 0
  run : 0 < i → ∃ p, Run S (S (i - 1)) n p k

theorem inv_start (S : Nat → ByteArray) (n : Nat) : Inv S n 0 0 := ⟨Nat.le_refl _, Nat.zero_le _, fun _ => rfl, fun h => absurd h (by omega)⟩

theorem inv_end {S : Nat → ByteArray} {n k : Nat} (h : Inv S n n k) : k = n := Nat.le_antisymm h.bd h.le

theorem run_in {S : Nat → ByteArray} {c : ByteArray} {n i j t : Nat} (hA : Asc S n) (hR : Run S c n i j) (ht : t < n) (e : (S t).toList = c.toList) : i ≤ t ∧ t < j := by
  have h := run_iff hA hR ht
  rw [beq_iff_eq.2 e] at h
  exact of_decide_eq_true h.symm

theorem Run.same {S : Nat → ByteArray} {c d : ByteArray} {n i j : Nat} (h : Run S c n i j) (e : c.toList = d.toList) : Run S d n i j :=
  ⟨h.le, h.bd, fun t x => e ▸ h.lt t x, fun t x y => e ▸ h.eq t x y, fun t x y => e ▸ h.ge t x y, fun x => e ▸ h.ne x⟩

theorem inv_same {S : Nat → ByteArray} {n i k : Nat} (hA : Asc S n) (h : Inv S n i k) (hi : i < n) (h0 : 0 < i) (e : (S i).toList = (S (i - 1)).toList) : Inv S n (i + 1) k := by
  obtain ⟨p, hR⟩ := h.run h0
  have := run_in hA hR hi e
  exact ⟨by omega, h.bd, by omega, fun _ => ⟨p, by rw [Nat.add_sub_cancel]; exact hR.same e.symm⟩⟩

theorem inv_new {S : Nat → ByteArray} {n i k p q : Nat} (hA : Asc S n) (h : Inv S n i k) (hi : i < n) (hne : 0 < i → (S i).toList ≠ (S (i - 1)).toList) (hR : Run S (S i) n p q) : k = i ∧ p = i ∧ i < q ∧ Inv S n (i + 1) q := by
  have h1 := run_in hA hR hi rfl
  have h2 : p = i := by
    by_cases hp : p < i
    · exact absurd (hR.eq (i - 1) (by omega) (by omega)).symm (hne (by omega))
    · omega
  have h3 : k = i := by
    by_cases h0 : 0 < i
    · obtain ⟨p', hR'⟩ := h.run h0
      have h4 := h.le
      by_cases hk : i < k
      · have h5 := run_in hA hR' (t := i - 1) (by omega) rfl
        exact absurd (hR'.eq i (by omega) hk) (hne h0)
      · omega
    · have := h.zero (by omega); omega
  exact ⟨h3, h2, h1.2, by omega, hR.bd, by omega, fun _ => ⟨p, by rw [Nat.add_sub_cancel]; exact hR⟩⟩

/-- between x and x with a zero byte behind it lies nothing -/
theorem next_none : ∀ (x y : List UInt8), y < x ++ [0] → ¬ x < y
  | [], [], _ => List.lt_irrefl _
  | [], b :: y, h => by
    rw [List.nil_append, List.cons_lt_cons_iff] at h
    rcases h with h | ⟨_, h⟩
    · exact absurd h (UInt8.not_lt_zero)
    · exact absurd h (List.not_lt_nil _)
  | a :: x, [], _ => List.not_lt_nil _
  | a :: x, b :: y, h => by
    rw [List.cons_append, List.cons_lt_cons_iff] at h
    rw [List.cons_lt_cons_iff]
    rintro (h2 | ⟨e2, h2⟩)
    · rcases h with h | ⟨e, h⟩
      · exact absurd (UInt8.lt_trans h h2) (UInt8.lt_irrefl _)
      · subst e; exact absurd h2 (UInt8.lt_irrefl _)
    · subst e2
      rcases h with h | ⟨_, h⟩
      · exact absurd h (UInt8.lt_irrefl _)
      · exact next_none x y h h2

theorem lt_next : ∀ (x : List UInt8), x < x ++ [0]
  | [] => by simp
  | a :: x => by rw [List.cons_append, List.cons_lt_cons_iff]; exact .inr ⟨rfl, lt_next x⟩

theorem probe_toList (x : ByteArray) : (x ++ ⟨#[0]⟩ : ByteArray).toList = x.toList ++ [0] := by
  rw [Lib.toList_data, Lib.toList_data, ByteArray.data_append, Array.toList_append]

theorem probe_none {S : Nat → ByteArray} {n i q p r : Nat} (hA : Asc S n) (hR : Run S (S i) n i q) (hi : i < n) (hne : q < n → (S q).toList ≠ (S i).toList ++ [0]) (hR2 : Run S (S i ++ ⟨#[0]⟩) n p r) : r - p = 0 := by
  by_cases hpr : p < r
  · exfalso
    have h1 := hR2.eq p (Nat.le_refl _) hpr
    have hb := hR2.bd
    rw [probe_toList] at h1
    have h2 : q ≤ p := by
      by_cases hqp : p < q
      · exfalso
        by_cases hpi : i ≤ p
        · have h3 := hR.eq p hpi hqp
          rw [h3] at h1
          have h4 := lt_next (S i).toList
          rw [← h1] at h4
          exact List.lt_irrefl _ h4
        · have h3 := hA p i (by omega) hi
          rw [h1] at h3
          exact h3 (lt_next _)
      · omega
    have h3 : q < n := by omega
    have h4 := hA q p h2 (by omega)
    rw [h1] at h4
    have h5 := hR.ge q hR.le h3
    have h6 := hR.ne h3
    have h7 : (S i).toList < (S q).toList := by
      by_cases hx : (S i).toList < (S q).toList
      · exact hx
      · exact absurd (List.le_antisymm (List.not_lt.1 hx) (List.not_lt.1 h5)) h6
    have h8 : ¬ (S q).toList < (S i).toList ++ [0] := fun hh => next_none _ _ hh h7
    exact hne h3 (List.le_antisymm (List.not_lt.1 h4) (List.not_lt.1 h8))
  · omega

theorem Rd.get {w : World} {b o n i : Nat} {f : Nat → Value} (h : Rd w (some ⟨b, o, none⟩) n f) (hi : i < n) : w.cell? ⟨b, o + i, none⟩ = some (f i) := by
  obtain ⟨b', o', e, _, hc⟩ := h.one (by omega)
  cases e
  exact hc i hi

/-- what the law's loops lean on -/
structure Held (w : World) (ab : Nat) (pa : Option Addr) (pc n : Nat) (P : Nat → Nat) (S G : Nat → ByteArray) (b1 : Option Addr) (bf : Nat) : Prop where
  acc : w.cell? ⟨ab, 4, none⟩ = some (.slice pa n pc)
  poss : Poss w pa n P S G
  sym : Rd w b1 n (fun i => .string (S i))
  bef : Rd w (some ⟨bf, 0, none⟩) n (fun i => .pointer (some ⟨P i, 0, none⟩))

theorem Held.below {w w' : World} {B ab : Nat} {pa : Option Addr} {pc n : Nat} {P : Nat → Nat} {S G : Nat → ByteArray} {b1 : Option Addr} {bf : Nat} (h : Held w ab pa pc n P S G b1 bf) (hb : Below B w w') (hB : w.heap.size ≤ B) : Held w' ab pa pc n P S G b1 bf :=
  ⟨by rw [hb.cell (p := ⟨ab, 4, none⟩) (Nat.lt_of_lt_of_le (World.block_lt_of_cell? _ _ h.acc) hB)]; exact h.acc, h.poss.below hb hB, h.sym.below hb hB, h.bef.below hb hB⟩

/-- is the symbol at i the one ahead of it? -/
def sameB (S : Nat → ByteArray) (i : Nat) : Bool := decide (0 < i) && ((S i).toList == (S (i - 1)).toList)
theorem sameB_zero (S : Nat → ByteArray) : sameB S 0 = false := rfl
theorem sameB_succ {S : Nat → ByteArray} {j : Nat} {b : Bool} (h : ((S (j + 1)).toList == (S j).toList) = b) : sameB S (j + 1) = b := by
  simp only [sameB, Nat.add_sub_cancel, h]; simp
theorem sameB_yes {S : Nat → ByteArray} {i : Nat} (h : sameB S i = true) : 0 < i ∧ (S i).toList = (S (i - 1)).toList := by
  unfold sameB at h
  rw [Bool.and_eq_true, decide_eq_true_iff, beq_iff_eq] at h
  exact h
theorem sameB_no {S : Nat → ByteArray} {i : Nat} (h : sameB S i = false) : 0 < i → (S i).toList ≠ (S (i - 1)).toList := by
  intro h0 e
  unfold sameB at h
  rw [e] at h
  simp at h
  omega

/-- 'append(run, x)', the run full: a new row is made, what was there stands. -/
theorem wpList_append_full {P : Program} {w : World} {ops : Array Oper} {rest : List Oper} {o : Oper} {a : Act} {Q : Exit → Act → World → Prop} (hg : o.guard = none) (s x : Operand) (t : TypeId)
    (hop : o.op = Op.call { callee := Callee.builtin Builtin.append, args := #[s, x], argTypes := #[t, t] }) (e : TypeId) (z : Value) (bytes : Nat) (h1 : P.underlying t = some (.slice e))
    (hinfo : (P.info? e).map (fun i => (i.zero, i.size, i.bytes)) = some (some z, 1, bytes)) (hz : z.cells.size = 1)
    (ra : Option Addr) (n : Nat) (f : Nat → Value) (hs : a.eval s = .slice ra n n) (h0 : 0 < n) (hrd : Rd w ra n f) (v : Value) (hv : v.oneCell' = true) (ad : Nat) (c : Nat) (hx : a.eval x = .slice (some ⟨ad, 0, none⟩) 1 c) (hc : w.cell? ⟨ad, 0, none⟩ = some v)
    (b1 : n + 1 ≤ maxLen) (b2 : (n + 1) * bytes ≤ 140737488355328)
    (hK : ∀ v' w', Below w.heap.size w w' → wpList P ops Q rest (a.put o.dst v') w') :
    wpList P ops Q (o :: rest) a w := by
  obtain ⟨i, hi, hz0, hz1, hz2⟩ := info_parts hinfo
  obtain ⟨b, oo, rfl, _, hcell⟩ := hrd.one h0
  refine wpList_append_grows w hg s x t hop e i z 1 bytes h1 hi hz0 hz1 hz2 hz (by decide) (some ⟨b, oo, none⟩) n n ((List.range n).map f) hs (fun e => by cases e) (by simp) ?_ ⟨ad, 0, none⟩ 1 c [v] hx rfl ?_ ?_ (by omega) b1 b2 ?_
  · intro b' e j u hj
    cases e
    obtain ⟨hlt, hj'⟩ := List.getElem?_eq_some_iff.1 hj
    simp at hlt hj'
    subst hj'
    rw [Addr.add_lit]
    exact hcell j hlt
  · intro j u hj
    cases j with
    | zero => simp at hj; subst hj; simpa [Addr.add] using hc
    | succ j => simp at hj
  · intro u hu
    simp at hu; subst hu; exact hv
  · intro v' w' _ hgr
    exact hK v' w' ((Below.refl _ _).grown hgr (Nat.le_refl _) (fun k hk => by cases hk))

theorem run_add_probe (x : ByteArray) (h : x.size ≤ 1048576) (w : World) : (binOp .add 9 (.string x) (.string ⟨#[0]⟩)).run Try.prog w = .ok (.string (x ++ ⟨#[0]⟩)) w := by
  have h1 : (⟨#[0]⟩ : ByteArray).size = 1 := rfl
  have h2 : ¬ (((x.size + 1 : Nat) : Int) > IntKind.i64.max) := by
    have h3 : IntKind.i64.max = 9223372036854775807 := by decide
    rw [h3]; omega
  show (Op.stringOp .add x ⟨#[0]⟩).run Try.prog w = _
  simp only [Op.stringOp, h1]
  rw [if_neg h2]
  rfl

end Go.Proofs.Qxb6609301a
