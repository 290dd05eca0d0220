import Derived.Test.Qxb6609301aBytes
import Derived.Test.Qxb6609301aOrd
namespace Go.Proofs.Qxb6609301a
open Go.RowKit

theorem upto_sz {S : Nat → ByteArray} {k m : Nat} (h : ∀ x, x < k → (S x).size ≤ m) (hk : (S k).size ≤ m) : ∀ x, x < k + 1 → (S x).size ≤ m := fun x hx => by
  by_cases e : x = k
  · subst e; exact hk
  · exact h x (by omega)

set_option maxRecDepth 100000 in
set_option maxHeartbeats 2000000 in
theorem bytes11s (a1 a2 : Option Addr) (n1 c1 n2 c2 : Nat) (S G : Nat → ByteArray) (w : World) (h1 : n1 ≤ maxLen) (h2 : n2 ≤ maxLen) (hS : Rd w a1 n1 (fun i => .string (S i))) (hG : Rd w a2 n2 (fun i => .string (G i))) (sS : ∀ i, i < n1 → (S i).size ≤ maxLen) (sG : ∀ i, i < n2 → (G i).size ≤ maxLen) :
    Calls Try.prog 11 #[.slice a1 n1 c1, .slice a2 n2 c2] w fun e w' => SomeBool (∀ i, i < n1 → (S i).size ≤ 1048576) e ∧ w' = w := by
  unfold maxLen at h1 h2 sS sG
  go_enter Try.func11, Try.ntmps11
  by_cases p1 : 1048576 < n1
  · go_wp2
    go_ret
    exact ⟨.no, rfl⟩
  go_wp2
  go_loop [5, 6] (fun t i => ∃ (k : Nat) (z : Int), k ≤ n1 ∧ Hid (∀ x, x < k → (S x).size ≤ 1048576) ∧ i = .int .i64 k ∧ t = .int .i64 z) (fun _ i => n1 - (intOf i).toNat)
  case atStart => exact ⟨0, _, Nat.zero_le _, fun x hx => by omega, rfl, rfl⟩
  case round =>
    obtain ⟨k, z, hk, HS, rfl, rfl⟩ := hrel
    by_cases hlt : k < n1
    · obtain ⟨b, o, rfl, _, hc⟩ := hS.one (by omega)
      have hck := hc k hlt
      have hsk := sS k hlt
      clear hc sS sG hS hG
      go_wp2
      · go_ret
        exact ⟨.no, rfl⟩
      · go_ret
        exact ⟨.no, rfl⟩
      · go_round
        case rel => exact ⟨k + 1, _, by omega, upto_sz HS.out (by omega), by go_num, rfl⟩
        case measure => simp [intOf]; omega
    · obtain rfl : k = n1 := by omega
      have hkn : ¬ ((k : Int) < k) := by omega
      clear hS sS
      by_cases p2 : 1048576 < n2
      · go_wp2
        go_ret
        exact ⟨.no, rfl⟩
      go_wp2
      · go_ret
        exact ⟨.no, rfl⟩
      go_loop [5, 7] (fun t i => ∃ (q : Nat) (y : Int), q ≤ n2 ∧ i = .int .i64 q ∧ t = .int .i64 y) (fun _ i => n2 - (intOf i).toNat)
      case atStart => exact ⟨0, _, Nat.zero_le _, rfl, rfl⟩
      case round =>
        obtain ⟨q, y, hq, rfl, rfl⟩ := hrel
        by_cases hlt2 : q < n2
        · obtain ⟨b, o, rfl, _, hc⟩ := hG.one (by omega)
          have hck := hc q hlt2
          have hsk := sG q hlt2
          clear hc sG hG
          go_wp2
          · go_ret
            exact ⟨.no, rfl⟩
          · go_ret
            exact ⟨.no, rfl⟩
          · go_round
            case rel => exact ⟨q + 1, _, by omega, by go_num, rfl⟩
            case measure => simp [intOf]; omega
        · obtain rfl : q = n2 := by omega
          have hkn2 : ¬ ((q : Int) < q) := by omega
          clear hG sG
          go_wp2
          all_goals go_ret
          all_goals first | exact ⟨.no, rfl⟩ | exact ⟨.yes HS.out, rfl⟩


end Go.Proofs.Qxb6609301a
