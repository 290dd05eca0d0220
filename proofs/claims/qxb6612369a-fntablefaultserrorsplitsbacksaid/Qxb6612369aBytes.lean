import Derived.Test.Qxb6612369aBase
namespace Go.Proofs.Qxb6612369a
open Go.RowKit

set_option maxHeartbeats 400000 in
theorem bytes9 (a : Option Addr) (n c : Nat) (S : Nat → ByteArray) (w : World) (hn : n ≤ maxLen) (hr : Rd w a n (fun i => .string (S i))) (hs : ∀ i, i < n → (S i).size ≤ maxLen) :
    Calls Try.prog 9 #[.slice a n c] w fun e w' => SomeBool (∀ i, i < n → (S i).size ≤ 1048576) e ∧ w' = w := by
  unfold maxLen at hn hs
  obtain ⟨b, o, ha, hc⟩ := hr
  go_enter Try.func9, Try.ntmps9
  go_wp2
  · go_ret
    exact ⟨.no, rfl⟩
  · go_loop [3, 4] (fun t i => ∃ (k : Nat) (z : Int), k ≤ n ∧ i = .int .i64 k ∧ t = .int .i64 z ∧ ∀ j, j < k → (S j).size ≤ 1048576) (fun _ i => n - (intOf i).toNat)
    case atStart => exact ⟨0, _, Nat.zero_le _, rfl, rfl, fun j hj => absurd hj (Nat.not_lt_zero _)⟩
    case round =>
      obtain ⟨k, z, hk, rfl, rfl, hall0⟩ := hrel
      have hall : Hid (∀ j, j < k → (S j).size ≤ 1048576) := hall0
      clear hall0
      by_cases hlt : k < n
      · obtain rfl := ha (by omega)
        have hck := hc k hlt
        have hsk := hs k hlt
        clear hc hs
        go_wp2
        · go_ret
          exact ⟨.no, rfl⟩
        · go_ret
          exact ⟨.no, rfl⟩
        · go_round
          case rel => exact ⟨k + 1, _, by omega, by go_num, rfl, fun j hj => by
            by_cases e : j = k
            · subst e; omega
            · exact hall.out j (by omega)⟩
          case measure => simp [intOf]; omega
      · obtain rfl : k = n := by omega
        go_wp2
        go_ret
        exact ⟨.yes hall.out, rfl⟩

set_option maxHeartbeats 400000 in
theorem bytes11 (a : Option Addr) (n c : Nat) (S : Nat → ByteArray) (w : World) (hn : n ≤ maxLen) (hr : Rd w a n (fun i => .string (S i))) (hs : ∀ i, i < n → (S i).size ≤ maxLen) :
    Calls Try.prog 11 #[.slice a n c] w fun e w' => SomeBool (∀ i, i < n → (S i).size ≤ 1048576) e ∧ w' = w := by
  unfold maxLen at hn hs
  obtain ⟨b, o, ha, hc⟩ := hr
  go_enter Try.func11, Try.ntmps11
  go_wp2
  · go_ret
    exact ⟨.no, rfl⟩
  · go_loop [3, 4] (fun t i => ∃ (k : Nat) (z : Int), k ≤ n ∧ i = .int .i64 k ∧ t = .int .i64 z ∧ ∀ j, j < k → (S j).size ≤ 1048576) (fun _ i => n - (intOf i).toNat)
    case atStart => exact ⟨0, _, Nat.zero_le _, rfl, rfl, fun j hj => absurd hj (Nat.not_lt_zero _)⟩
    case round =>
      obtain ⟨k, z, hk, rfl, rfl, hall0⟩ := hrel
      have hall : Hid (∀ j, j < k → (S j).size ≤ 1048576) := hall0
      clear hall0
      by_cases hlt : k < n
      · obtain rfl := ha (by omega)
        have hck := hc k hlt
        have hsk := hs k hlt
        clear hc hs
        go_wp2
        · go_ret
          exact ⟨.no, rfl⟩
        · go_ret
          exact ⟨.no, rfl⟩
        · go_round
          case rel => exact ⟨k + 1, _, by omega, by go_num, rfl, fun j hj => by
            by_cases e : j = k
            · subst e; omega
            · exact hall.out j (by omega)⟩
          case measure => simp [intOf]; omega
      · obtain rfl : k = n := by omega
        go_wp2
        go_ret
        exact ⟨.yes hall.out, rfl⟩


end Go.Proofs.Qxb6612369a
