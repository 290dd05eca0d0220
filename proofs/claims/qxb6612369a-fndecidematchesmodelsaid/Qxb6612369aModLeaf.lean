import Derived.Test.Qxb6612369aModPlain
import Derived.Deep.QuietTactic
import Derived.BigQuiet
namespace Go.Proofs.Qxb6612369a
open Go.RowKit

set_option maxHeartbeats 1000000 in
theorem dflt26 (p : Int) (c : Bool) (w : World) :
    Calls Try.prog 26 #[.int .i64 p, .bool c] w fun e w' => e = .returned (.int .i64 (dflt c p)) ∧ w' = w := by
  go_enter Try.func26, Try.ntmps26
  go_wp2
  all_goals (go_ret; refine ⟨ret_int ?_, rfl⟩; simp_all [dflt])

set_option maxHeartbeats 1000000 in
theorem rowFits24 (xa : Option Addr) (xc : Nat) (ha : Option Addr) (hc : Nat) (pa : Option Addr) (pc n : Nat) (X P : Nat → Int) (C : Nat → Bool) (w : World) (hn : n ≤ 131072)
    (hX : Rd w xa n (fun j => .int .i64 (X j))) (hC : Rd w ha n (fun j => .bool (C j))) (hP : Rd w pa n (fun j => .int .i64 (P j))) :
    Calls Try.prog 24 #[.slice xa n xc, .slice ha n hc, .slice pa n pc] w fun e w' => e = .returned (.bool (allTo (fun i => fs (C i) (P i) (X i)) n)) ∧ ∃ q, w' = w.drewN q := by
  go_enter Try.func24, Try.ntmps24
  go_wp2
  go_loopg [7] n (fun g i wr => ∃ k q : Nat, k ≤ n ∧ g = n - k ∧ i = .int .i64 k ∧ wr = w.drewN q ∧ Hid (∀ j, j < k → fs (C j) (P j) (X j) = true))
  case atStart => exact ⟨0, 0, Nat.zero_le _, rfl, rfl, rfl, fun j hj => absurd hj (Nat.not_lt_zero _)⟩
  case round =>
    obtain ⟨k, q, hk, rfl, rfl, rfl, hall⟩ := hrel
    by_cases hlt : k < n
    · obtain ⟨b1, o1, rfl, hbl1, hc1⟩ := hX.one (by omega)
      obtain ⟨b2, o2, rfl, hbl2, hc2⟩ := hP.one (by omega)
      obtain ⟨b3, o3, rfl, hbl3, hc3⟩ := hC.one (by omega)
      have e1 := hc1 k hlt
      have e2 := hc2 k hlt
      have e3 := hc3 k hlt
      have hre := reach_eq (P k) (C k) (X k)
      clear hX hC hP hc1 hc2 hc3
      cases hfs : fs (C k) (P k) (X k)
      · rw [hfs] at hre
        have HF : Hid (fs (C k) (P k) (X k) = false) := hfs
        clear hfs
        go_wp2
        go_quiet ((go_at_call 18; exact (reach18 _ _ _ _).mono fun e w'' ⟨he, hw⟩ => ⟨he, _, hw⟩))
        go_wp2
        go_ret
        refine ⟨ret_bool ?_, _, World.drewN_drewN _ _ _⟩
        cases hq : allTo (fun i => fs (C i) (P i) (X i)) n with
        | false => rfl
        | true => exact absurd ((allTo_iff _ n).1 hq k hlt) (by simp [HF.out])
      · rw [hfs] at hre
        have HF : Hid (fs (C k) (P k) (X k) = true) := hfs
        clear hfs
        go_wp2
        go_quiet ((go_at_call 18; exact (reach18 _ _ _ _).mono fun e w'' ⟨he, hw⟩ => ⟨he, _, hw⟩))
        go_wp2
        go_roundg (n - (k + 1))
        case measure => go_light; omega
        case rel =>
          go_light
          exact ⟨k + 1, _, by omega, rfl, by go_num, rfl, fun j hj => by
            by_cases e : j = k
            · subst e; exact HF.out
            · exact hall.out j (by omega)⟩
    · obtain rfl : n = k := by omega
      clear hX hC hP
      go_wp2
      go_ret
      exact ⟨ret_bool ((allTo_iff _ n).2 hall.out).symm, _, rfl⟩

set_option maxHeartbeats 1000000 in
theorem cancels25 (xa : Option Addr) (xc : Nat) (ya : Option Addr) (yc : Nat) (pa : Option Addr) (pc n : Nat) (X Y P : Nat → Int) (w : World) (hn : n ≤ 131072)
    (hX : Rd w xa n (fun j => .int .i64 (X j))) (hY : Rd w ya n (fun j => .int .i64 (Y j))) (hP : Rd w pa n (fun j => .int .i64 (P j))) :
    Calls Try.prog 25 #[.slice xa n xc, .slice ya n yc, .slice pa n pc] w fun e w' => e = .returned (.bool (cmFrom P X Y 0 n)) ∧ w' = w := by
  go_enter Try.func25, Try.ntmps25
  go_wp2
  go_loop [7] (fun i => ∃ k : Nat, k ≤ n ∧ i = .int .i64 k ∧ Hid (cmFrom P X Y 0 n = cmFrom P X Y k (n - k))) (fun i => n - (intOf i).toNat)
  case atStart => exact ⟨0, Nat.zero_le _, rfl, rfl⟩
  case round =>
    obtain ⟨k, hk, rfl, hcm⟩ := hrel
    by_cases hlt : k < n
    · obtain ⟨b1, o1, rfl, hbl1, hc1⟩ := hX.one (by omega)
      obtain ⟨b2, o2, rfl, hbl2, hc2⟩ := hP.one (by omega)
      obtain ⟨b3, o3, rfl, hbl3, hc3⟩ := hY.one (by omega)
      have e1 := hc1 k hlt
      have e2 := hc2 k hlt
      have e3 := hc3 k hlt
      have HS : Hid (cmFrom P X Y 0 n = if P k = 1 ∧ (X k == 5) ≠ (Y k == 5) then X k == 5 else cmFrom P X Y (k + 1) (n - (k + 1))) := by
        have := hcm.out
        rw [show n - k = (n - (k + 1)) + 1 from by omega] at this
        exact this
      clear hX hY hP hc1 hc2 hc3 hcm
      by_cases hp : P k = 1
      · rw [hp] at e2
        by_cases hx : X k = 5
        · rw [hx] at e1
          by_cases hy : Y k = 5
          · rw [hy] at e3
            have HN : Hid (cmFrom P X Y 0 n = cmFrom P X Y (k + 1) (n - (k + 1))) := by have := HS.out; rw [if_neg (by simp [hx, hy])] at this; exact this
            clear HS
            go_wp2
            go_round
            case rel => exact ⟨k + 1, by omega, by go_num, HN.out⟩
            case measure => simp [intOf]; omega
          · have hy' : (Y k == 5) = false := by simp [hy]
            have HN : Hid (cmFrom P X Y 0 n = true) := by have := HS.out; rw [if_pos (by simp [hx, hp, hy])] at this; rw [this]; show _ = _; simp [hx]
            clear HS
            go_wp2
            go_ret
            exact ⟨by rw [HN.out]; rfl, rfl⟩
        · have hx' : (X k == 5) = false := by simp [hx]
          by_cases hy : Y k = 5
          · rw [hy] at e3
            have HN : Hid (cmFrom P X Y 0 n = false) := by have := HS.out; rw [if_pos (by simp [hx, hp, hy])] at this; rw [this]; exact hx'
            clear HS
            go_wp2
            go_ret
            exact ⟨by rw [HN.out]; rfl, rfl⟩
          · have hy' : (Y k == 5) = false := by simp [hy]
            have HN : Hid (cmFrom P X Y 0 n = cmFrom P X Y (k + 1) (n - (k + 1))) := by have := HS.out; rw [if_neg (by simp [hx', hy'])] at this; exact this
            clear HS
            go_wp2
            go_round
            case rel => exact ⟨k + 1, by omega, by go_num, HN.out⟩
            case measure => simp [intOf]; omega
      · have hp' : (P k != 1) = true := by simp [hp]
        have HN : Hid (cmFrom P X Y 0 n = cmFrom P X Y (k + 1) (n - (k + 1))) := by have := HS.out; rw [if_neg (fun q => hp q.1)] at this; exact this
        clear HS
        go_wp2
        go_round
        case rel => exact ⟨k + 1, by omega, by go_num, HN.out⟩
        case measure => simp [intOf]; omega
    · obtain rfl : n = k := by omega
      have HN : Hid (cmFrom P X Y 0 n = false) := by have := hcm.out; rw [Nat.sub_self] at this; exact this
      clear hX hY hP hcm
      go_wp2
      go_ret
      exact ⟨by rw [HN.out]; rfl, rfl⟩

end Go.Proofs.Qxb6612369a
