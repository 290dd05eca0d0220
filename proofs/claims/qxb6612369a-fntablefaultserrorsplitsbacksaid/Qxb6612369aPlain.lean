import Derived.Test.Qxb6612369aJoined
namespace Go.Proofs.Qxb6612369a
open Go.RowKit

/-- Where message k's separator begins in the joined text (message 0: where it begins). -/
def wantTo (S : Nat → ByteArray) : Nat → Nat
  | 0 => 0
  | k + 1 => wantTo S k + (if 0 < k then 2 else 0) + (S k).size

theorem jn_succ (S : Nat → ByteArray) (k : Nat) : jn S (k + 1) = jn S k ++ ((if 0 < k then [59, 32] else []) ++ (S k).data.toList) := by
  unfold jn
  rw [List.range_succ, List.map_append]
  cases h : (List.range k).map (fun i => (S i).data.toList) with
  | nil =>
    have : k = 0 := by simpa using h
    subst this
    simp [Lib.join, List.intercalate]
  | cons x r =>
    have hk : 0 < k := by
      rcases Nat.eq_zero_or_pos k with h0 | h0
      · subst h0; simp at h
      · exact h0
    simp only [List.cons_append, List.map_cons, List.map_nil]
    rw [Lib.join_cons, Lib.join_cons, if_pos hk]
    simp [Lib.joinTail]

theorem size_toList (s : ByteArray) : s.data.toList.length = s.size := Array.length_toList

theorem jn_length (S : Nat → ByteArray) (k : Nat) : (jn S k).length = wantTo S k := by
  induction k with
  | zero => simp [jn, Lib.join, List.intercalate, wantTo]
  | succ k ih =>
    rw [jn_succ, List.length_append, List.length_append, ih, wantTo, size_toList]
    by_cases h : 0 < k
    · simp [h]; omega
    · simp [h]

theorem wantTo_le (S : Nat → ByteArray) (k : Nat) : wantTo S k ≤ 2 * k + sumLen S k := by
  induction k with
  | zero => simp [wantTo]
  | succ k ih =>
    simp only [wantTo, sumLen]
    split <;> omega

theorem jn_prefix (S : Nat → ByteArray) {k n : Nat} (h : k ≤ n) : ∃ r, jn S n = jn S k ++ r := by
  induction n with
  | zero => exact ⟨[], by obtain rfl : k = 0 := by omega
                          simp⟩
  | succ n ih =>
    by_cases e : k = n + 1
    · subst e; exact ⟨[], by simp⟩
    · obtain ⟨r, hr⟩ := ih (by omega)
      exact ⟨r ++ ((if 0 < n then [59, 32] else []) ++ (S n).data.toList), by rw [jn_succ, hr, List.append_assoc]⟩

theorem wantTo_mono (S : Nat → ByteArray) {k n : Nat} (h : k ≤ n) : wantTo S k ≤ wantTo S n := by
  obtain ⟨r, hr⟩ := jn_prefix S h
  rw [← jn_length, ← jn_length, hr]; simp

/-- the byte of message k at j stands behind its separator -/
theorem jn_msg (S : Nat → ByteArray) {k n j : Nat} (hk : k < n) (hj : j < (S k).size) : (jn S n)[wantTo S k + (if 0 < k then 2 else 0) + j]? = some ((S k)[j]) := by
  obtain ⟨r, hr⟩ := jn_prefix S (show k + 1 ≤ n from hk)
  rw [hr, jn_succ, List.append_assoc, List.getElem?_append_right (by rw [jn_length]; omega), jn_length]
  rw [List.append_assoc, List.getElem?_append_right (by split <;> simp <;> omega)]
  rw [List.getElem?_append_left (by rw [size_toList]; split <;> simp <;> omega)]
  have e : wantTo S k + (if 0 < k then 2 else 0) + j - wantTo S k - (if 0 < k then [59, 32] else ([] : List UInt8)).length = j := by split <;> simp <;> omega
  rw [e, List.getElem?_eq_getElem (by rw [size_toList]; exact hj)]
  rfl

theorem jn_sep (S : Nat → ByteArray) {k n : Nat} (h0 : 0 < k) (hk : k < n) : (jn S n)[wantTo S k]? = some 59 ∧ (jn S n)[wantTo S k + 1]? = some 32 := by
  obtain ⟨r, hr⟩ := jn_prefix S (show k + 1 ≤ n from hk)
  rw [hr, jn_succ, if_pos h0, List.append_assoc]
  constructor
  · rw [List.getElem?_append_right (by rw [jn_length]; omega), jn_length]; simp
  · rw [List.getElem?_append_right (by rw [jn_length]; omega), jn_length]; simp

end Go.Proofs.Qxb6612369a
