import Derived.Test.Qxb6612369aPlain
namespace Go.Proofs.Qxb6612369a

/-- no semicolon with a blank right behind it -/
def NoSep (s : ByteArray) : Prop := ∀ j, (h : j + 1 < s.size) → ¬ (s[j]'(by omega) = 59 ∧ s[j + 1] = 32)

/-- where message k begins in the joined text -/
def stTo (S : Nat → ByteArray) (k : Nat) : Nat := wantTo S k + (if 0 < k then 2 else 0)

theorem stTo_zero (S : Nat → ByteArray) : stTo S 0 = 0 := rfl
theorem wantTo_succ (S : Nat → ByteArray) (k : Nat) : wantTo S (k + 1) = stTo S k + (S k).size := rfl
theorem stTo_succ (S : Nat → ByteArray) (k : Nat) : stTo S (k + 1) = stTo S k + (S k).size + 2 := by
  unfold stTo
  rw [if_pos (by omega), wantTo_succ]; rfl

theorem stTo_le (S : Nat → ByteArray) {k n : Nat} (h : k < n) : stTo S k + (S k).size ≤ wantTo S n := by
  rw [← wantTo_succ]; exact wantTo_mono S h

theorem stTo_next (S : Nat → ByteArray) {k n : Nat} (h : k + 1 < n) : stTo S k + (S k).size + 2 ≤ wantTo S n := by
  rw [← stTo_succ]
  have := stTo_le S h
  omega

/-- the joined text's bytes -/
theorem jn_msg' (S : Nat → ByteArray) {k n j : Nat} (hk : k < n) (hj : j < (S k).size) : (jn S n)[stTo S k + j]? = some ((S k)[j]) := jn_msg S hk hj

theorem jn_sep' (S : Nat → ByteArray) {k n : Nat} (hk : k + 1 < n) : (jn S n)[stTo S k + (S k).size]? = some 59 ∧ (jn S n)[stTo S k + (S k).size + 1]? = some 32 := by
  have := jn_sep S (show 0 < k + 1 by omega) hk
  rwa [wantTo_succ] at this

theorem jn_piece (S : Nat → ByteArray) {k n : Nat} (hk : k < n) : ((jn S n).drop (stTo S k)).take (S k).size = (S k).data.toList := by
  apply List.ext_getElem?
  intro i
  by_cases hi : i < (S k).size
  · rw [List.getElem?_take, if_pos hi, List.getElem?_drop, jn_msg' S hk hi]
    rw [List.getElem?_eq_getElem (by rw [size_toList]; exact hi)]; rfl
  · rw [List.getElem?_take, if_neg hi, List.getElem?_eq_none (by rw [size_toList]; omega)]

theorem jn_last (S : Nat → ByteArray) (n : Nat) : (jn S (n + 1)).drop (stTo S n) = (S n).data.toList := by
  have h := jn_piece S (show n < n + 1 by omega)
  rw [List.take_of_length_le] at h
  · exact h
  · rw [List.length_drop, jn_length, wantTo_succ]; omega

end Go.Proofs.Qxb6612369a
