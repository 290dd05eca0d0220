import Derived.Test.Qxb6609301aRun
namespace Go.Proofs.Qxb6609301a
open Go.RowKit

def IsBool (e : Ending) : Prop := e = .returned (.bool true) ∨ e = .returned (.bool false)
theorem IsBool.yes : IsBool (.returned (.bool true)) := .inl rfl
theorem IsBool.no : IsBool (.returned (.bool false)) := .inr rfl
theorem IsBool.mk (b : Bool) : IsBool (.returned (.bool b)) := by cases b; exact .no; exact .yes
theorem IsBool.out {e : Ending} (h : IsBool e) : ∃ b, e = .returned (.bool b) := by
  rcases h with h | h
  · exact ⟨_, h⟩
  · exact ⟨_, h⟩

set_option maxRecDepth 100000 in
set_option maxHeartbeats 2000000 in
theorem bytes5 (a1 a2 : Option Addr) (n1 c1 n2 c2 : Nat) (S G : Nat → ByteArray) (sym : ByteArray) (w : World) (h1 : n1 ≤ maxLen) (h2 : n2 ≤ maxLen) (h3 : sym.size ≤ maxLen) (hS : Rd w a1 n1 (fun i => .string (S i))) (hG : Rd w a2 n2 (fun i => .string (G i))) (sS : ∀ i, i < n1 → (S i).size ≤ maxLen) (sG : ∀ i, i < n2 → (G i).size ≤ maxLen) :
    Calls Try.prog 5 #[.slice a1 n1 c1, .slice a2 n2 c2, .string sym] w fun e w' => IsBool e ∧ w' = w := by
  unfold maxLen at h1 h2 h3 sS sG
  have h3' := h3
  clear h3
  go_enter Try.func5, Try.ntmps5
  by_cases p1 : 1048576 < n1
  · go_wp2
    go_ret
    exact ⟨.no, rfl⟩
  go_wp2
  go_loop [7, 8] (fun t i => ∃ (k : Nat) (z : Int), k ≤ n1 ∧ i = .int .i64 k ∧ t = .int .i64 z) (fun _ i => n1 - (intOf i).toNat)
  case atStart => exact ⟨0, _, Nat.zero_le _, rfl, rfl⟩
  case round =>
    obtain ⟨k, z, hk, rfl, rfl⟩ := hrel
    by_cases hlt : k < n1
    · obtain ⟨b, o, rfl, _, hc⟩ := hS.one (by omega)
      have hck := hc k hlt
      have hsk := sS k hlt
      clear hc sS sG hS hG
      go_wp2
      · go_ret
        exact ⟨.no, rfl⟩
      · go_ret
        exact ⟨.no, rfl⟩
      · go_round
        case rel => exact ⟨k + 1, _, by omega, by go_num, rfl⟩
        case measure => simp [intOf]; omega
    · obtain rfl : k = n1 := by omega
      have hkn : ¬ ((k : Int) < k) := by omega
      clear hS sS
      by_cases p2 : 1048576 < n2
      · go_wp2
        go_ret
        exact ⟨.no, rfl⟩
      go_wp2
      · go_ret
        exact ⟨.no, rfl⟩
      go_loop [7, 9] (fun t i => ∃ (q : Nat) (y : Int), q ≤ n2 ∧ i = .int .i64 q ∧ t = .int .i64 y) (fun _ i => n2 - (intOf i).toNat)
      case atStart => exact ⟨0, _, Nat.zero_le _, rfl, rfl⟩
      case round =>
        obtain ⟨q, y, hq, rfl, rfl⟩ := hrel
        by_cases hlt2 : q < n2
        · obtain ⟨b, o, rfl, _, hc⟩ := hG.one (by omega)
          have hck := hc q hlt2
          have hsk := sG q hlt2
          clear hc sG hG
          go_wp2
          · go_ret
            exact ⟨.no, rfl⟩
          · go_ret
            exact ⟨.no, rfl⟩
          · go_round
            case rel => exact ⟨q + 1, _, by omega, by go_num, rfl⟩
            case measure => simp [intOf]; omega
        · obtain rfl : q = n2 := by omega
          have hkn2 : ¬ ((q : Int) < q) := by omega
          clear hG sG
          go_wp2
          all_goals go_ret
          all_goals first | exact ⟨.no, rfl⟩ | exact ⟨.yes, rfl⟩

set_option maxRecDepth 100000 in
set_option maxHeartbeats 2000000 in
theorem bytes11 (a1 a2 : Option Addr) (n1 c1 n2 c2 : Nat) (S G : Nat → ByteArray) (w : World) (h1 : n1 ≤ maxLen) (h2 : n2 ≤ maxLen) (hS : Rd w a1 n1 (fun i => .string (S i))) (hG : Rd w a2 n2 (fun i => .string (G i))) (sS : ∀ i, i < n1 → (S i).size ≤ maxLen) (sG : ∀ i, i < n2 → (G i).size ≤ maxLen) :
    Calls Try.prog 11 #[.slice a1 n1 c1, .slice a2 n2 c2] w fun e w' => IsBool e ∧ w' = w := by
  unfold maxLen at h1 h2 sS sG
  go_enter Try.func11, Try.ntmps11
  by_cases p1 : 1048576 < n1
  · go_wp2
    go_ret
    exact ⟨.no, rfl⟩
  go_wp2
  go_loop [5, 6] (fun t i => ∃ (k : Nat) (z : Int), k ≤ n1 ∧ i = .int .i64 k ∧ t = .int .i64 z) (fun _ i => n1 - (intOf i).toNat)
  case atStart => exact ⟨0, _, Nat.zero_le _, rfl, rfl⟩
  case round =>
    obtain ⟨k, z, hk, rfl, rfl⟩ := hrel
    by_cases hlt : k < n1
    · obtain ⟨b, o, rfl, _, hc⟩ := hS.one (by omega)
      have hck := hc k hlt
      have hsk := sS k hlt
      clear hc sS sG hS hG
      go_wp2
      · go_ret
        exact ⟨.no, rfl⟩
      · go_ret
        exact ⟨.no, rfl⟩
      · go_round
        case rel => exact ⟨k + 1, _, by omega, by go_num, rfl⟩
        case measure => simp [intOf]; omega
    · obtain rfl : k = n1 := by omega
      have hkn : ¬ ((k : Int) < k) := by omega
      clear hS sS
      by_cases p2 : 1048576 < n2
      · go_wp2
        go_ret
        exact ⟨.no, rfl⟩
      go_wp2
      · go_ret
        exact ⟨.no, rfl⟩
      go_loop [5, 7] (fun t i => ∃ (q : Nat) (y : Int), q ≤ n2 ∧ i = .int .i64 q ∧ t = .int .i64 y) (fun _ i => n2 - (intOf i).toNat)
      case atStart => exact ⟨0, _, Nat.zero_le _, rfl, rfl⟩
      case round =>
        obtain ⟨q, y, hq, rfl, rfl⟩ := hrel
        by_cases hlt2 : q < n2
        · obtain ⟨b, o, rfl, _, hc⟩ := hG.one (by omega)
          have hck := hc q hlt2
          have hsk := sG q hlt2
          clear hc sG hG
          go_wp2
          · go_ret
            exact ⟨.no, rfl⟩
          · go_ret
            exact ⟨.no, rfl⟩
          · go_round
            case rel => exact ⟨q + 1, _, by omega, by go_num, rfl⟩
            case measure => simp [intOf]; omega
        · obtain rfl : q = n2 := by omega
          have hkn2 : ¬ ((q : Int) < q) := by omega
          clear hG sG
          go_wp2
          all_goals go_ret
          all_goals first | exact ⟨.no, rfl⟩ | exact ⟨.yes, rfl⟩

set_option maxRecDepth 100000 in
set_option maxHeartbeats 2000000 in
theorem tooBig6 (a1 a2 : Option Addr) (n1 c1 n2 c2 : Nat) (S G : Nat → ByteArray) (sym : ByteArray) (w : World) (h1 : n1 ≤ 65536) (h2 : n2 ≤ 65536) (h3 : sym.size ≤ 65536) (hS : Rd w a1 n1 (fun i => .string (S i))) (hG : Rd w a2 n2 (fun i => .string (G i))) (sS : ∀ i, i < n1 → (S i).size ≤ maxLen) (sG : ∀ i, i < n2 → (G i).size ≤ maxLen) :
    Calls Try.prog 6 #[.slice a1 n1 c1, .slice a2 n2 c2, .string sym] w fun e w' => IsBool e ∧ w' = w := by
  unfold maxLen at sS sG
  have g1 : ¬ ((65536 : Int) < n1) := by omega
  have g2 : ¬ ((65536 : Int) < n2) := by omega
  have g3 : ¬ ((65536 : Int) < sym.size) := by omega
  go_enter Try.func6, Try.ntmps6
  go_wp2
  go_loop [7, 8] (fun t i => ∃ (k : Nat) (z : Int), k ≤ n1 ∧ i = .int .i64 k ∧ t = .int .i64 z) (fun _ i => n1 - (intOf i).toNat)
  case atStart => exact ⟨0, _, Nat.zero_le _, rfl, rfl⟩
  case round =>
    obtain ⟨k, z, hk, rfl, rfl⟩ := hrel
    by_cases hlt : k < n1
    · obtain ⟨b, o, rfl, _, hc⟩ := hS.one (by omega)
      have hck := hc k hlt
      have hsk := sS k hlt
      clear hc sS sG hS hG
      go_wp2
      · go_ret
        exact ⟨.yes, rfl⟩
      · go_round
        case rel => exact ⟨k + 1, _, by omega, by go_num, rfl⟩
        case measure => simp [intOf]; omega
    · obtain rfl : k = n1 := by omega
      have hkn : ¬ ((k : Int) < k) := by omega
      clear hS sS
      go_wp2
      go_loop [7, 9] (fun t i => ∃ (q : Nat) (y : Int), q ≤ n2 ∧ i = .int .i64 q ∧ t = .int .i64 y) (fun _ i => n2 - (intOf i).toNat)
      case atStart => exact ⟨0, _, Nat.zero_le _, rfl, rfl⟩
      case round =>
        obtain ⟨q, y, hq, rfl, rfl⟩ := hrel
        by_cases hlt2 : q < n2
        · obtain ⟨b, o, rfl, _, hc⟩ := hG.one (by omega)
          have hck := hc q hlt2
          have hsk := sG q hlt2
          clear hc sG hG
          go_wp2
          · go_ret
            exact ⟨.yes, rfl⟩
          · go_round
            case rel => exact ⟨q + 1, _, by omega, by go_num, rfl⟩
            case measure => simp [intOf]; omega
        · obtain rfl : q = n2 := by omega
          have hkn2 : ¬ ((q : Int) < q) := by omega
          clear hG sG
          go_wp2
          all_goals go_ret
          all_goals first | exact ⟨.no, rfl⟩ | exact ⟨.yes, rfl⟩ | exact ⟨.mk _, rfl⟩

end Go.Proofs.Qxb6609301a
