import Derived.Test.Qxb6612369aModLeaf
import Derived.Test.Qxb6612369aDecZZ
import Derived.Deep.RegionWith
namespace Go.Proofs.Qxb6612369a
open Go.RowKit

structure OutM (w wr : World) (n : Nat) (st : Nat → Int) (k : Nat) : Prop where
  below : Below w.heap.size w wr
  row : wr.rowIs w.heap.size 3 n (uptoI st k)

theorem outM_start (w : World) (n : Nat) (st : Nat → Int) : OutM w (w.alloc (.cells (madeCells #[.int .i64 0] n) 3)) n st 0 :=
  ⟨(Below.refl _ _).alloc (Nat.le_refl _) _, (World.rowIs_made w _ n 3).congr (fun j _ => by simp [uptoI])⟩
theorem outM_step {w wr : World} {n : Nat} {st : Nat → Int} {k : Nat} (h : OutM w wr n st k) : OutM w (wr.setCell ⟨w.heap.size, k, none⟩ (.int .i64 (st k))) n st (k + 1) :=
  ⟨h.below.setCell (Nat.le_refl _) _, uptoI_step h.row⟩
theorem outM_drewN {w wr : World} {n : Nat} {st : Nat → Int} {k : Nat} (h : OutM w wr n st k) (q : Nat) : OutM w (wr.drewN q) n st k := ⟨below_drewN h.below q, h.row⟩
theorem outM_drew {w wr : World} {n : Nat} {st : Nat → Int} {k : Nat} (h : OutM w wr n st k) : OutM w wr.drew n st k := ⟨h.below.drew, h.row⟩
theorem outM_done {w wr : World} {n : Nat} {st : Nat → Int} (h : OutM w wr n st n) : wr.rowIs w.heap.size 3 n (fun i => .int .i64 (st i)) := h.row.congr fun i hi => by simp [uptoI, hi]

set_option maxRecDepth 100000 in
set_option maxHeartbeats 2000000 in
theorem model_zero (n m : Nat) (C : Nat → Bool) (P : Nat → Int) (R : Nat → Nat → Int) (ha : Option Addr) (hcp : Nat) (ga : Option Addr) (gc : Nat) (A : Nat → Option Addr) (Cp : Nat → Nat) (pa : Option Addr) (pc : Nat) (w : World)
    (hn : n ≤ 131072) (hm : m ≤ 65536) (hG : Rd w ga m (fun k => .slice (A k) n (Cp k))) (hR : ∀ k, k < m → Rd w (A k) n (fun j => .int .i64 (R k j))) (hP : Rd w pa n (fun j => .int .i64 (P j))) (hf : nFail P n = 0) :
    Calls Try.prog 16 #[.slice ha n hcp, .slice ga m gc, .slice pa n pc] w fun e w' => ∃ g,
      e = .returned (.tuple #[.slice (some ⟨g, 0, none⟩) n n, .bool (decAcc C P R n m)]) ∧ w'.rowIs g 3 n (fun i => .int .i64 (decSt C P R n m i)) ∧ Below w.heap.size w w' := by
  have eA : decAcc C P R n m = accZ m (fun k => allTo (fun i => R k i == 1) n) m := by simp [decAcc, hf]
  have eS : (fun i => Value.int .i64 (decSt C P R n m i)) = fun _ => .int .i64 1 := funext fun i => by rw [decSt_zero hf]
  rw [eA, eS]
  clear eA eS
  have HF : Hid (nFail P n = 0) := hf
  clear hf
  have hmk := run_make_row' (P := Try.prog) 28 3 (.int .i64 0) 8 Try.underlying28 Try.info3 rfl .i64 .i64 n (by omega) (by omega)
  go_enter Try.func16, Try.ntmps16
  go_wp2
  go_loop [9, 10] (fun t i => ∃ k : Nat, k ≤ n ∧ i = .int .i64 k ∧ t = .int .i64 (nFail P k : Nat)) (fun _ i => n - (intOf i).toNat)
  case atStart => exact ⟨0, Nat.zero_le _, rfl, rfl⟩
  case round =>
    obtain ⟨k, hk, rfl, rfl⟩ := hrel
    by_cases hlt : k < n
    · obtain ⟨b2, o2, rfl, hbl2, hc2⟩ := hP.one (by omega)
      have hck := hc2 k hlt
      have hle := nFail_le P k
      clear hc2 hP hG hR hmk
      by_cases h3 : P k = 3
      · rw [h3] at hck
        go_wp2
        go_round
        case rel => exact ⟨k + 1, by omega, by go_num, by simp only [nFail]; rw [if_pos h3]; go_num⟩
        case measure => simp [intOf]; omega
      · have h3' : (P k == 3) = false := by simp [h3]
        go_wp2
        go_round
        case rel => exact ⟨k + 1, by omega, by go_num, by simp only [nFail]; rw [if_neg h3]; go_num⟩
        case measure => simp [intOf]; omega
    · obtain rfl : n = k := by omega
      rw [HF.out]
      clear hP
      go_wp2
      clear hmk
      go_loopg [12] n (fun g i wr => ∃ k : Nat, k ≤ n ∧ g = n - k ∧ i = .int .i64 k ∧ OutM w wr n (fun _ => 1) k)
      case atStart => exact ⟨0, Nat.zero_le _, rfl, rfl, outM_start w n _⟩
      case round =>
        obtain ⟨k, hk, rfl, rfl, hO⟩ := hrel
        by_cases hlt : k < n
        · have c3 : wr.cell? ⟨w.heap.size, k, none⟩ = some (.int .i64 0) := by rw [hO.row.cell hlt]; simp [uptoI]
          have c4 : wr.frozen? ⟨w.heap.size, k, none⟩ = false := hO.row.frozen k
          clear hG hR
          go_wp2
          go_roundg (n - (k + 1))
          case measure => go_light; omega
          case rel => go_light; exact ⟨k + 1, by omega, rfl, by go_num, outM_step hO⟩
        · obtain rfl : n = k := by omega
          obtain ⟨wo, rfl⟩ : ∃ wo : World, wo = wr := ⟨_, rfl⟩
          have hG2 := hG.below hO.below (Nat.le_refl _)
          have hR2 : ∀ k, k < m → Rd wo (A k) n (fun j => .int .i64 (R k j)) := fun k hk => (hR k hk).below hO.below (Nat.le_refl _)
          clear hG hR
          go_wp2
          go_loop [13, 14] (fun t i => ∃ k : Nat, k ≤ m ∧ i = .int .i64 k ∧ t = .bool (accZ m (fun k => allTo (fun i => R k i == 1) n) k)) (fun _ i => m - (intOf i).toNat)
          case atStart => exact ⟨0, Nat.zero_le _, rfl, by rw [accZ_zero]⟩
          case round =>
            obtain ⟨x, hx, rfl, rfl⟩ := hrel
            by_cases hxm : x < m
            · obtain ⟨b2, o2, rfl, hbl2, hc2⟩ := hG2.one (by omega)
              have e2 := hc2 x hxm
              have hRx := hR2 x hxm
              have HS : Hid (accZ m (fun k => allTo (fun i => R k i == 1) n) (x + 1) = (accZ m (fun k => allTo (fun i => R k i == 1) n) x || allTo (fun i => R x i == 1) n)) := accZ_succ m _ x
              have HA0 : Hid (allTo (fun i => R x i == 1) 0 = true) := rfl
              clear hc2 hG2 hR2
              go_wp2
              go_loop [15, 16] (fun t i => ∃ j : Nat, j ≤ n ∧ i = .int .i64 j ∧ t = .bool (allTo (fun i => R x i == 1) j)) (fun _ i => n - (intOf i).toNat)
              case atStart => exact ⟨0, Nat.zero_le _, rfl, by rw [HA0.out]⟩
              case round =>
                clear HA0
                obtain ⟨j, hj, rfl, rfl⟩ := hrel
                by_cases hjl : j < n
                · obtain ⟨b3, o3, hAx, hbl3, hc3⟩ := hRx.one (by omega)
                  rw [hAx] at e2
                  have e3 := hc3 j hjl
                  have HA : Hid (allTo (fun i => R x i == 1) (j + 1) = (allTo (fun i => R x i == 1) j && (R x j == 1))) := rfl
                  clear hc3 hAx hRx
                  by_cases heq : R x j = 1
                  · have HE : Hid ((R x j == 1) = true) := by show _ = _; simp [heq]
                    rw [heq] at e3
                    clear heq
                    go_wp2
                    go_round
                    case rel => exact ⟨j + 1, by omega, by go_num, by rw [HA.out, HE.out, Bool.and_true]⟩
                    case measure => simp [intOf]; omega
                  · have hbe : (R x j != 1) = true := by simp [heq]
                    have HE : Hid ((R x j == 1) = false) := by show _ = _; simp [heq]
                    clear heq
                    go_wp2
                    go_round
                    case rel => exact ⟨j + 1, by omega, by go_num, by rw [HA.out, HE.out, Bool.and_false]⟩
                    case measure => simp [intOf]; omega
                · obtain rfl : n = j := by omega
                  generalize allTo (fun i => R x i == 1) n = al at HS ⊢
                  clear hRx
                  cases al
                  · go_wp2
                    go_round
                    case rel => exact ⟨x + 1, by omega, by go_num, by rw [HS.out, Bool.or_false]⟩
                    case measure => simp [intOf]; omega
                  · go_wp2
                    go_round
                    case rel => exact ⟨x + 1, by omega, by go_num, by rw [HS.out, Bool.or_true]⟩
                    case measure => simp [intOf]; omega
            · obtain rfl : m = x := by omega
              clear hG2 hR2
              go_wp2
              go_ret2
              exact ⟨_, rfl, outM_done hO, hO.below⟩

end Go.Proofs.Qxb6612369a
