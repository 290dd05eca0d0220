import Derived.Test.Qxb6612369aDecPlain
namespace Go.Proofs.Qxb6612369a
open Go.RowKit

set_option maxHeartbeats 1000000 in
theorem reach18 (p : Int) (c : Bool) (st : Int) (w : World) :
    Calls Try.prog 18 #[.int .i64 p, .bool c, .int .i64 st] w fun e w' => e = .returned (.bool (reach p c st)) ∧ w' = w := by
  go_enter Try.func18, Try.ntmps18
  go_wp2
  all_goals (go_ret; refine ⟨ret_bool ?_, rfl⟩; simp_all [reach])

/-- a step's nine cells; only whether the compensation's pointer is nil matters -/
def stepV (q : Option Addr) : Value := .agg #[.string ⟨#[]⟩, .slice none 0 0, .map none, .pointer none, .pointer q, .bool false, .int .i64 0, .int .i64 0, .int .i64 0]

set_option maxHeartbeats 1000000 in
theorem fitsStep43 (q : Option Addr) (p st : Int) (w : World) :
    Calls Try.prog 43 #[stepV q, .int .i64 p, .int .i64 st] w fun e w' => e = .returned (.bool (fs q.isSome p st)) ∧ Below w.heap.size w w' := by
  unfold stepV
  go_enter Try.func43, Try.ntmps43
  go_wp2
  all_goals (go_ret; refine ⟨ret_bool ?_, (Below.refl _ _).alloc (Nat.le_refl _) _⟩; simp_all [fs])

set_option maxHeartbeats 1000000 in
theorem dflt32 (q : Option Addr) (p : Int) (w : World) :
    Calls Try.prog 32 #[stepV q, .int .i64 p] w fun e w' => e = .returned (.int .i64 (dflt q.isSome p)) ∧ Below w.heap.size w w' := by
  unfold stepV
  go_enter Try.func32, Try.ntmps32
  go_wp2
  all_goals (go_ret; refine ⟨ret_int ?_, (Below.refl _ _).alloc (Nat.le_refl _) _⟩; simp_all [dflt])

set_option maxHeartbeats 400000 in
theorem failures29 (a : Option Addr) (n c : Nat) (P : Nat → Int) (w : World) (hn : n ≤ 1048576) (hr : Rd w a n (fun i => .int .i64 (P i))) :
    Calls Try.prog 29 #[.slice a n c] w fun e w' => e = .returned (.int .i64 (nFail P n : Nat)) ∧ w' = w := by
  obtain ⟨b, o, ha, hc⟩ := hr
  go_enter Try.func29, Try.ntmps29
  go_wp2
  go_loop [3, 8] (fun t i => ∃ k : Nat, k ≤ n ∧ i = .int .i64 k ∧ t = .int .i64 (nFail P k : Nat)) (fun _ i => n - (intOf i).toNat)
  case atStart => exact ⟨0, Nat.zero_le _, rfl, rfl⟩
  case round =>
    obtain ⟨k, hk, rfl, rfl⟩ := hrel
    by_cases hlt : k < n
    · obtain rfl := ha (by omega)
      have hck := hc k hlt
      have hle := nFail_le P k
      clear hc
      by_cases h3 : P k = 3
      · rw [h3] at hck
        go_wp2
        go_round
        case rel => exact ⟨k + 1, by omega, by go_num, by simp only [nFail]; rw [if_pos h3]; go_num⟩
        case measure => simp [intOf]; omega
      · have h3' : (P k == 3) = false := by simp [h3]
        go_wp2
        go_round
        case rel => exact ⟨k + 1, by omega, by go_num, by simp only [nFail]; rw [if_neg h3]; go_num⟩
        case measure => simp [intOf]; omega
    · obtain rfl : n = k := by omega
      go_wp2
      go_ret
      exact ⟨rfl, rfl⟩

set_option maxHeartbeats 400000 in
theorem allComp30 (a : Option Addr) (n c : Nat) (R : Nat → Int) (w : World) (hn : n ≤ 1048576) (hr : Rd w a n (fun i => .int .i64 (R i))) :
    Calls Try.prog 30 #[.slice a n c] w fun e w' => e = .returned (.bool (allTo (fun i => R i == 1) n)) ∧ w' = w := by
  obtain ⟨b, o, ha, hc⟩ := hr
  go_enter Try.func30, Try.ntmps30
  go_wp2
  go_loop [7] (fun i => ∃ k : Nat, k ≤ n ∧ i = .int .i64 k ∧ Hid (∀ j, j < k → R j = 1)) (fun i => n - (intOf i).toNat)
  case atStart => exact ⟨0, Nat.zero_le _, rfl, fun j hj => absurd hj (Nat.not_lt_zero _)⟩
  case round =>
    obtain ⟨k, hk, rfl, hall⟩ := hrel
    by_cases hlt : k < n
    · obtain rfl := ha (by omega)
      have hck := hc k hlt
      clear hc
      by_cases h3 : R k = 1
      · rw [h3] at hck
        go_wp2
        go_round
        case rel => exact ⟨k + 1, by omega, by go_num, fun j hj => by
            by_cases e : j = k
            · subst e; exact h3
            · exact hall.out j (by omega)⟩
        case measure => simp [intOf]; omega
      · have h3' : (R k != 1) = true := by simp [h3]
        go_wp2
        go_ret
        refine ⟨ret_bool ?_, rfl⟩
        cases hq : allTo (fun i => R i == 1) n with
        | false => rfl
        | true => exact absurd (by simpa using (allTo_iff _ n).1 hq k hlt) h3
    · obtain rfl : n = k := by omega
      go_wp2
      go_ret
      exact ⟨ret_bool ((allTo_iff _ n).2 fun i hi => by simpa using hall.out i hi).symm, rfl⟩

end Go.Proofs.Qxb6612369a
