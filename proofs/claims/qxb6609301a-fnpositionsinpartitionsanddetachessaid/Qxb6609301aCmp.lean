import Derived.Test.Qxb6609301aRows
import Derived.WalkKit
import Derived.ProofKit
import Derived.Below
import Derived.Deep.OwnRows
import Derived.Laws.Cover1
namespace Go.Proofs.Qxb6609301a
open Go.RowKit

/-- Go's order of strings -/
def cmpS (a b : ByteArray) : Int := if Op.bytesLess a.toList b.toList then -1 else if a.toList == b.toList then 0 else 1

theorem isNaN29 (s : ByteArray) (w : World) : Calls Try.prog 29 #[.string s] w fun e w' => e = .returned (.bool false) ∧ w' = w := by
  go_enter Try.func29, Try.ntmps29
  go_wp2
  go_ret
  exact ⟨by simp, rfl⟩

theorem isNaN30 (s : ByteArray) (w : World) : Calls Try.prog 30 #[.string s] w fun e w' => e = .returned (.bool false) ∧ w' = w := by
  go_enter Try.func30, Try.ntmps30
  go_wp2
  go_ret
  exact ⟨by simp, rfl⟩

set_option maxHeartbeats 1000000 in
theorem compare27 (a b : ByteArray) (w : World) : Calls Try.prog 27 #[.string a, .string b] w fun e w' => e = .returned (.int .i64 (cmpS a b)) ∧ w' = w := by
  have c1 := isNaN29 a w
  have c2 := isNaN29 b w
  unfold cmpS
  cases h1 : Op.bytesLess a.toList b.toList <;> cases h2 : (a.toList == b.toList)
  all_goals
    go_enter Try.func27, Try.ntmps27
    go_wp2_with fail
    refine c1.mono ?_
    rintro e w' ⟨rfl, rfl⟩
    go_wp2_with fail
    refine c2.mono ?_
    rintro e w' ⟨rfl, rfl⟩
    go_wp2
    go_ret
    exact ⟨rfl, rfl⟩

set_option maxHeartbeats 1000000 in
theorem compare28 (a b : ByteArray) (w : World) : Calls Try.prog 28 #[.string a, .string b] w fun e w' => e = .returned (.int .i64 (cmpS a b)) ∧ w' = w := by
  have c1 := isNaN30 a w
  have c2 := isNaN30 b w
  unfold cmpS
  cases h1 : Op.bytesLess a.toList b.toList <;> cases h2 : (a.toList == b.toList)
  all_goals
    go_enter Try.func28, Try.ntmps28
    go_wp2_with fail
    refine c1.mono ?_
    rintro e w' ⟨rfl, rfl⟩
    go_wp2_with fail
    refine c2.mono ?_
    rintro e w' ⟨rfl, rfl⟩
    go_wp2
    go_ret
    exact ⟨rfl, rfl⟩

/-- the first that is no 0 -/
def orI (x y : Int) : Int := if x = 0 then y else x

set_option maxHeartbeats 1000000 in
theorem or26 (g : Nat) (x y : Int) (w : World) (h0 : w.cell? ⟨g, 0, none⟩ = some (.int .i64 x)) (h1 : w.cell? ⟨g, 1, none⟩ = some (.int .i64 y)) :
    Calls Try.prog 26 #[.slice (some ⟨g, 0, none⟩) 2 2] w fun e w' => e = .returned (.int .i64 (orI x y)) ∧ w' = w := by
  unfold orI
  go_enter Try.func26, Try.ntmps26
  go_wp2
  go_loop [8] (fun i => ∃ k : Nat, k ≤ 2 ∧ i = .int .i64 k ∧ (0 < k → x = 0) ∧ (1 < k → y = 0)) (fun i => 2 - (intOf i).toNat)
  case atStart => exact ⟨0, Nat.zero_le _, rfl, by omega, by omega⟩
  case round =>
    obtain ⟨k, hk, rfl, hx, hy⟩ := hrel
    have hc : k = 0 ∨ k = 1 ∨ k = 2 := by omega
    rcases hc with rfl | rfl | rfl
    · by_cases hz : x = 0
      · go_wp2
        go_round
        case rel => exact ⟨1, by omega, by go_num, fun _ => hz, by omega⟩
        case measure => simp [intOf]
      · go_wp2
        go_ret
        exact ⟨by first | rfl | rw [if_neg hz], rfl⟩
    · have hx0 := hx (by omega)
      by_cases hz : y = 0
      · go_wp2
        go_round
        case rel => exact ⟨2, by omega, by go_num, fun _ => hx0, fun _ => hz⟩
        case measure => simp [intOf]
      · go_wp2
        go_ret
        exact ⟨by first | rfl | rw [if_pos hx0], rfl⟩
    · have hx0 := hx (by omega)
      have hy0 := hy (by omega)
      go_wp2
      go_ret
      exact ⟨by first | rfl | rw [if_pos hx0, hy0] | simp [hx0, hy0], rfl⟩

end Go.Proofs.Qxb6609301a
