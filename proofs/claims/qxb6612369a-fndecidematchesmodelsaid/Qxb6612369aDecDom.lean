import Derived.Test.Qxb6612369aDecLeaf
namespace Go.Proofs.Qxb6612369a
open Go.RowKit

set_option maxRecDepth 100000 in
set_option maxHeartbeats 1000000 in
theorem bytes17 (ah : Option Addr) (nh ch : Nat) (ga : Option Addr) (m gc : Nat) (A : Nat → Option Addr) (L Cp : Nat → Nat) (an : Option Addr) (nn cn : Nat) (w : World)
    (hh : nh ≤ maxLen) (hm : m ≤ maxLen) (hnn : nn ≤ maxLen) (hL : ∀ k, k < m → L k ≤ maxLen) (hg : Rd w ga m (fun k => .slice (A k) (L k) (Cp k))) :
    Calls Try.prog 17 #[.slice ah nh ch, .slice ga m gc, .slice an nn cn] w fun e w' => SomeBool (nh ≤ 1048576 ∧ m ≤ 1048576 ∧ nn ≤ 1048576 ∧ ∀ k, k < m → L k ≤ 1048576) e ∧ w' = w := by
  unfold maxLen at hh hm hnn hL
  obtain ⟨b, o, ha, hc⟩ := hg
  by_cases q1 : 1048576 < nh
  · go_enter Try.func17, Try.ntmps17
    go_wp2
    go_ret
    exact ⟨.no, rfl⟩
  by_cases q2 : 1048576 < m
  · go_enter Try.func17, Try.ntmps17
    go_wp2
    go_ret
    exact ⟨.no, rfl⟩
  by_cases q3 : 1048576 < nh + m
  · go_enter Try.func17, Try.ntmps17
    go_wp2
    go_ret
    exact ⟨.no, rfl⟩
  go_enter Try.func17, Try.ntmps17
  go_wp2
  go_loop [7, 8] (fun t i => ∃ (k z : Nat), k ≤ m ∧ i = .int .i64 k ∧ t = .int .i64 z ∧ z ≤ 1048576 ∧ Hid (∀ j, j < k → L j ≤ 1048576)) (fun _ i => m - (intOf i).toNat)
  case atStart => exact ⟨0, nh + m, Nat.zero_le _, rfl, by go_num, by omega, fun j hj => absurd hj (Nat.not_lt_zero _)⟩
  case round =>
    obtain ⟨k, z, hk, rfl, rfl, hz, hall⟩ := hrel
    by_cases hlt : k < m
    · obtain rfl := ha (by omega)
      have hck := hc k hlt
      have hLk := hL k hlt
      clear hc hL
      by_cases r1 : 1048576 < L k
      · go_wp2
        go_ret
        exact ⟨.no, rfl⟩
      by_cases r2 : 1048576 < z + L k
      · go_wp2
        go_ret
        exact ⟨.no, rfl⟩
      go_wp2
      go_round
      case rel => exact ⟨k + 1, z + L k, by omega, by go_num, by go_num, by omega, fun j hj => by
            by_cases e : j = k
            · subst e; omega
            · exact hall.out j (by omega)⟩
      case measure => simp [intOf]; omega
    · obtain rfl : m = k := by omega
      clear hc hL
      go_wp2
      · go_ret
        exact ⟨.no, rfl⟩
      · go_ret
        exact ⟨.no, rfl⟩
      · go_ret
        exact ⟨.yes ⟨by omega, by omega, by omega, hall.out⟩, rfl⟩

set_option maxRecDepth 100000 in
set_option maxHeartbeats 1000000 in
theorem bytes13 (ah : Option Addr) (nh ch : Nat) (ga : Option Addr) (m gc : Nat) (A : Nat → Option Addr) (L Cp : Nat → Nat) (an : Option Addr) (nn cn : Nat) (w : World)
    (hh : nh ≤ maxLen) (hm : m ≤ maxLen) (hnn : nn ≤ maxLen) (hL : ∀ k, k < m → L k ≤ maxLen) (hg : Rd w ga m (fun k => .slice (A k) (L k) (Cp k))) :
    Calls Try.prog 13 #[.slice ah nh ch, .slice ga m gc, .slice an nn cn] w fun e w' => SomeBool (nh ≤ 1048576 ∧ m ≤ 1048576 ∧ nn ≤ 1048576 ∧ ∀ k, k < m → L k ≤ 1048576) e ∧ w' = w := by
  unfold maxLen at hh hm hnn hL
  obtain ⟨b, o, ha, hc⟩ := hg
  by_cases q1 : 1048576 < nh
  · go_enter Try.func13, Try.ntmps13
    go_wp2
    go_ret
    exact ⟨.no, rfl⟩
  by_cases q2 : 1048576 < m
  · go_enter Try.func13, Try.ntmps13
    go_wp2
    go_ret
    exact ⟨.no, rfl⟩
  by_cases q3 : 1048576 < nh + m
  · go_enter Try.func13, Try.ntmps13
    go_wp2
    go_ret
    exact ⟨.no, rfl⟩
  go_enter Try.func13, Try.ntmps13
  go_wp2
  go_loop [7, 8] (fun t i => ∃ (k z : Nat), k ≤ m ∧ i = .int .i64 k ∧ t = .int .i64 z ∧ z ≤ 1048576 ∧ Hid (∀ j, j < k → L j ≤ 1048576)) (fun _ i => m - (intOf i).toNat)
  case atStart => exact ⟨0, nh + m, Nat.zero_le _, rfl, by go_num, by omega, fun j hj => absurd hj (Nat.not_lt_zero _)⟩
  case round =>
    obtain ⟨k, z, hk, rfl, rfl, hz, hall⟩ := hrel
    by_cases hlt : k < m
    · obtain rfl := ha (by omega)
      have hck := hc k hlt
      have hLk := hL k hlt
      clear hc hL
      by_cases r1 : 1048576 < L k
      · go_wp2
        go_ret
        exact ⟨.no, rfl⟩
      by_cases r2 : 1048576 < z + L k
      · go_wp2
        go_ret
        exact ⟨.no, rfl⟩
      go_wp2
      go_round
      case rel => exact ⟨k + 1, z + L k, by omega, by go_num, by go_num, by omega, fun j hj => by
            by_cases e : j = k
            · subst e; omega
            · exact hall.out j (by omega)⟩
      case measure => simp [intOf]; omega
    · obtain rfl : m = k := by omega
      clear hc hL
      go_wp2
      · go_ret
        exact ⟨.no, rfl⟩
      · go_ret
        exact ⟨.no, rfl⟩
      · go_ret
        exact ⟨.yes ⟨by omega, by omega, by omega, hall.out⟩, rfl⟩

set_option maxRecDepth 100000 in
set_option maxHeartbeats 1000000 in
theorem domain14 (ah : Option Addr) (nh ch : Nat) (ga : Option Addr) (m gc : Nat) (A : Nat → Option Addr) (L Cp : Nat → Nat) (an : Option Addr) (nn cn : Nat) (P : Nat → Int) (w : World)
    (hh : nh ≤ 1048576) (hm : m ≤ 1048576) (hnn : nn ≤ 1048576) (hL : ∀ k, k < m → L k ≤ 1048576) (hg : Rd w ga m (fun k => .slice (A k) (L k) (Cp k))) (hp : Rd w an nn (fun i => .int .i64 (P i))) :
    Calls Try.prog 14 #[.slice ah nh ch, .slice ga m gc, .slice an nn cn] w fun e w' => SomeBool (nh = nn ∧ (∀ i, i < nn → 0 ≤ P i ∧ P i ≤ 4) ∧ ∀ k, k < m → L k = nn) e ∧ w' = w := by
  obtain ⟨b, o, ha, hc⟩ := hg
  obtain ⟨b2, o2, ha2, hc2⟩ := hp
  by_cases q1 : nh = nn
  · subst q1
    go_enter Try.func14, Try.ntmps14
    go_wp2
    go_loop [7] (fun i => ∃ k : Nat, k ≤ nh ∧ i = .int .i64 k ∧ Hid (∀ j, j < k → 0 ≤ P j ∧ P j ≤ 4)) (fun i => nh - (intOf i).toNat)
    case atStart => exact ⟨0, Nat.zero_le _, rfl, fun j hj => absurd hj (Nat.not_lt_zero _)⟩
    case round =>
      obtain ⟨k, hk, rfl, hall⟩ := hrel
      by_cases hlt : k < nh
      · obtain rfl := ha2 (by omega)
        have hck := hc2 k hlt
        clear hc2 hc hL
        by_cases r1 : P k < 0
        · go_wp2
          go_ret
          exact ⟨.no, rfl⟩
        by_cases r2 : 4 < P k
        · go_wp2
          go_ret
          exact ⟨.no, rfl⟩
        go_wp2
        go_round
        case rel => exact ⟨k + 1, by omega, by go_num, fun j hj => by
              by_cases e : j = k
              · subst e; omega
              · exact hall.out j (by omega)⟩
        case measure => simp [intOf]; omega
      · obtain rfl : nh = k := by omega
        clear hc2
        go_wp2
        go_loop [8] (fun i => ∃ k : Nat, k ≤ m ∧ i = .int .i64 k ∧ Hid (∀ j, j < k → L j = nh)) (fun i => m - (intOf i).toNat)
        case atStart => exact ⟨0, Nat.zero_le _, rfl, fun j hj => absurd hj (Nat.not_lt_zero _)⟩
        case round =>
          obtain ⟨k, hk, rfl, hall2⟩ := hrel
          by_cases hlt : k < m
          · obtain rfl := ha (by omega)
            have hck := hc k hlt
            have hLk := hL k hlt
            clear hc hL
            by_cases r1 : L k = nh
            · rw [r1] at hck
              have HR : Hid (L k = nh) := r1
              clear r1
              go_wp2
              go_round
              case rel => exact ⟨k + 1, by omega, by go_num, fun j hj => by
                    by_cases e : j = k
                    · subst e; exact HR.out
                    · exact hall2.out j (by omega)⟩
              case measure => simp [intOf]; omega
            · have r1' : ((L k : Int) != (nh : Int)) = true := by rw [bne_iff_ne]; omega
              go_wp2
              go_ret
              exact ⟨.no, rfl⟩
          · obtain rfl : m = k := by omega
            clear hc hL
            go_wp2
            go_ret
            exact ⟨.yes ⟨hall.out, hall2.out⟩, rfl⟩
  · have q1' : ((nh : Int) != (nn : Int)) = true := by rw [bne_iff_ne]; omega
    go_enter Try.func14, Try.ntmps14
    go_wp2
    go_ret
    exact ⟨.no, rfl⟩

end Go.Proofs.Qxb6612369a
