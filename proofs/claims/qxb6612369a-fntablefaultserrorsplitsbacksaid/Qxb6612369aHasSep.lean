import Derived.Test.Qxb6612369aSplitPlain
namespace Go.Proofs.Qxb6612369a
open Go.RowKit

/-- The call came back with a bool; where it is false, p holds. -/
def SomeNot (p : Prop) (e : Ending) : Prop := ∃ b, e = .returned (.bool b) ∧ (b = false → p)
theorem SomeNot.yes {p : Prop} : SomeNot p (.returned (.bool true)) := ⟨true, rfl, fun h => by cases h⟩
theorem SomeNot.no {p : Prop} (h : p) : SomeNot p (.returned (.bool false)) := ⟨false, rfl, fun _ => h⟩

theorem byte_ne {x : UInt8} {c : Nat} (h : x ≠ UInt8.ofNat c) : ((x.toNat : Int) == (c : Int)) = false := by
  rw [beq_eq_false_iff_ne]
  intro e
  apply h
  have e' : x.toNat = c := by omega
  rw [← e']; simp

set_option maxHeartbeats 400000 in
theorem hasSep12 (s : ByteArray) (w : World) (hs : s.size ≤ 1048576) :
    Calls Try.prog 12 #[.string s] w fun e w' => SomeNot (NoSep s) e ∧ w' = w := by
  go_enter Try.func12, Try.ntmps12
  go_wp2
  go_loop [3] (fun i => ∃ k : Nat, k ≤ s.size ∧ i = .int .i64 k ∧ Hid (∀ j, j < k → (h : j + 1 < s.size) → ¬ (s[j]'(by omega) = 59 ∧ s[j + 1] = 32))) (fun i => s.size - (intOf i).toNat)
  case atStart => exact ⟨0, Nat.zero_le _, rfl, fun j hj => absurd hj (Nat.not_lt_zero _)⟩
  case round =>
    obtain ⟨k, hk, rfl, hall⟩ := hrel
    by_cases hlt : k + 1 < s.size
    · have hks : k < s.size := by omega
      by_cases h1 : s[k] = 59
      · by_cases h2 : s[k + 1] = 32
        · go_wp2
          go_ret
          exact ⟨.yes, rfl⟩
        · have h2' : ((s[k + 1].toNat : Int) == 32) = false := byte_ne (c := 32) h2
          go_wp2
          go_round
          case rel => exact ⟨k + 1, by omega, by go_num, fun j hj h => by
              by_cases e : j = k
              · subst e; exact fun q => h2 q.2
              · exact hall.out j (by omega) h⟩
          case measure => simp [intOf]; omega
      · have h1' : ((s[k].toNat : Int) == 59) = false := byte_ne (c := 59) h1
        go_wp2
        go_round
        case rel => exact ⟨k + 1, by omega, by go_num, fun j hj h => by
              by_cases e : j = k
              · subst e; exact fun q => h1 q.1
              · exact hall.out j (by omega) h⟩
        case measure => simp [intOf]; omega
    · have hlt' : ¬ ((k : Int) + 1 < (s.size : Int)) := by omega
      go_wp2
      go_ret
      exact ⟨.no fun j h => hall.out j (by omega) h, rfl⟩

end Go.Proofs.Qxb6612369a
