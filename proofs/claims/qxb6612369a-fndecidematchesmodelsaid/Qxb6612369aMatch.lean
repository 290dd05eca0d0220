import Derived.Test.Qxb6612369aDecAcc
import Derived.Test.Qxb6612369aModel2
namespace Go.Proofs.Qxb6612369a
open Go.RowKit

theorem model16 (n m : Nat) (C : Nat → Bool) (P : Nat → Int) (R : Nat → Nat → Int) (ha : Option Addr) (hcp : Nat) (ga : Option Addr) (gc : Nat) (A : Nat → Option Addr) (Cp : Nat → Nat) (pa : Option Addr) (pc : Nat) (w : World)
    (hn : n ≤ 131072) (hm : m ≤ 65536) (hH : Rd w ha n (fun i => .bool (C i))) (hG : Rd w ga m (fun k => .slice (A k) n (Cp k))) (hR : ∀ k, k < m → Rd w (A k) n (fun j => .int .i64 (R k j))) (hP : Rd w pa n (fun j => .int .i64 (P j))) :
    Calls Try.prog 16 #[.slice ha n hcp, .slice ga m gc, .slice pa n pc] w fun e w' => ∃ g,
      e = .returned (.tuple #[.slice (some ⟨g, 0, none⟩) n n, .bool (decAcc C P R n m)]) ∧ w'.rowIs g 3 n (fun i => .int .i64 (decSt C P R n m i)) ∧ Below w.heap.size w w' := by
  by_cases h0 : nFail P n = 0
  · exact model_zero n m C P R ha hcp ga gc A Cp pa pc w hn hm hG hR hP h0
  by_cases h1 : nFail P n = 1
  · have hn0 : 0 < n := by
      rcases Nat.eq_zero_or_pos n with h | h
      · subst h; simp [nFail] at h1
      · exact h
    have h := model_one n m C P R ha hcp ga gc A Cp pa pc w hn hm hH hG hR hP h1 hn0
    rw [best_pick C P R n m] at h
    have eA : accB (decPk C P R n m).head? m = decAcc C P R n m := by
      unfold decAcc accB
      rw [if_neg h0, if_pos h1]
      cases decPk C P R n m <;> rfl
    have eS : (fun i => Value.int .i64 (stB C P R (decPk C P R n m).head? i)) = fun i => Value.int .i64 (decSt C P R n m i) := funext fun i => by
      unfold decSt stB
      rw [if_neg h0, if_pos h1]
      cases decPk C P R n m <;> rfl
    rw [eA, eS] at h
    exact h
  · have h := model_many n m C P ha hcp ga gc pa pc w hn hH hP (nFail P n) rfl (by omega)
    have eA : decAcc C P R n m = false := by simp [decAcc, h0, h1]
    have eS : (fun i => Value.int .i64 (decSt C P R n m i)) = fun i => Value.int .i64 (dflt (C i) (P i)) := funext fun i => by simp [decSt, h0, h1]
    rw [eA, eS]
    exact h

set_option maxRecDepth 100000 in
set_option maxHeartbeats 4000000 in
theorem matches5 (ah : Option Addr) (nh ch : Nat) (ga : Option Addr) (m gc : Nat) (A : Nat → Option Addr) (L Cp : Nat → Nat) (an : Option Addr) (nn cn : Nat) (C : Nat → Bool) (P : Nat → Int) (R : Nat → Nat → Int) (w : World)
    (hh : nh ≤ maxLen) (hm : m ≤ maxLen) (hnn : nn ≤ maxLen) (hL : ∀ k, k < m → L k ≤ maxLen) (hga : ga = none → m = 0 ∧ gc = 0) (hnil : ∀ k, k < m → A k = none → Cp k = 0)
    (hH : Rd w ah nh (fun i => .bool (C i))) (hG : Rd w ga m (fun k => .slice (A k) (L k) (Cp k))) (hR : ∀ k, k < m → Rd w (A k) (L k) (fun j => .int .i64 (R k j))) (hP : Rd w an nn (fun i => .int .i64 (P i))) :
    Calls Try.prog 5 #[.slice ah nh ch, .slice ga m gc, .slice an nn cn] w fun e w' => e = .returned (.bool true) ∧ Below w.heap.size w w' := by
  have hhm := hh
  have hmm := hm
  have hnm := hnn
  unfold maxLen at hhm hmm hnm
  go_enter Try.func5, Try.ntmps5
  go_wp2_with fail
  refine (bytes13 ah nh ch ga m gc A L Cp an nn cn w hh hm hnn hL hG).mono ?_
  rintro e w' ⟨⟨bb, rfl, hbb⟩, rfl⟩
  cases bb
  · go_wp2
    go_ret
    exact ⟨rfl, Below.refl _ _⟩
  obtain ⟨l1, l2, l3, l4⟩ := hbb rfl
  clear hbb hL hh hm hnn
  by_cases q2 : 131072 < nn
  · go_wp2
    go_ret
    exact ⟨rfl, Below.refl _ _⟩
  by_cases q3 : 65536 < m
  · go_wp2
    go_ret
    exact ⟨rfl, Below.refl _ _⟩
  have hmkB := run_make_row' (P := Try.prog) 26 4 (.bool false) 1 Try.underlying26 Try.info4 rfl .i64 .i64 nh (by omega) (by omega)
  have hmkI := run_make_row' (P := Try.prog) 28 3 (.int .i64 0) 8 Try.underlying28 Try.info3 rfl .i64 .i64 nn (by omega) (by omega)
  go_upto_if 35 with fail
  go_cut [0] from 16 (fun s0 wx => ∃ a c, s0 = .slice a nh c ∧ Rd wx a nh (fun i => .bool (C i)) ∧ Below w'.heap.size w' wx)
  case first =>
    cases ah with
    | none =>
      have hne := fun w => run_neq_slice_nil_any (P := Try.prog) w 26 4 none nh ch 0 0 Try.underlying26
      go_wp2_with fail
      go_meet
      case rel => exact ⟨_, _, rfl, hH, Below.refl _ _⟩
    | some a0 =>
      have hrow := World.rowIs_made w' (.bool false) nh 4
      have hrd1 : Rd (w'.alloc (.cells (madeCells #[.bool false] nh) 4)) (some a0) nh (fun i => .bool (C i)) := hH.below ((Below.refl w'.heap.size w').alloc (Nat.le_refl _) _) (Nat.le_refl _)
      have hone : ∀ i, i < nh → (Value.bool (C i)).oneCell' = true := fun i _ => rfl
      go_wp2_with (refine wpList_copy_rd rfl (.tmp 39) (.tmp 40) 26 26 rfl 4 Try.underlying26 Try.cell4 (some a0) nh ch w'.heap.size rfl rfl 4 _ _ hrow hrd1 hone w'.heap.size (Nat.le_refl _) ?_; intro w1 hb1 hz1 hrow1)
      go_meet
      case rel => exact ⟨_, _, rfl, Rd.ofRow hrow1, ((Below.refl _ _).alloc (Nat.le_refl _) _).trans hb1⟩
  case rest =>
  obtain ⟨a1, c1, rfl, hH1, hB1⟩ := hcut
  clear hmkB hH
  obtain ⟨w1, rfl⟩ : ∃ w1 : World, w1 = wc := ⟨_, rfl⟩
  go_upto_if 44 with fail
  go_cut [2] from 16 (fun s2 wx => ∃ a c, s2 = .slice a nn c ∧ Rd wx a nn (fun i => .int .i64 (P i)) ∧ Below w1.heap.size w1 wx)
  case first =>
    have hP1 := hP.below hB1 (Nat.le_refl _)
    cases an with
    | none =>
      have hne := fun w => run_neq_slice_nil_any (P := Try.prog) w 28 3 none nn cn 0 0 Try.underlying28
      go_wp2_with fail
      go_meet
      case rel => exact ⟨_, _, rfl, hP1, Below.refl _ _⟩
    | some a0 =>
      have hrow := World.rowIs_made w1 (.int .i64 0) nn 3
      have hrd1 : Rd (w1.alloc (.cells (madeCells #[.int .i64 0] nn) 3)) (some a0) nn (fun i => .int .i64 (P i)) := hP1.below ((Below.refl w1.heap.size w1).alloc (Nat.le_refl _) _) (Nat.le_refl _)
      have hone : ∀ i, i < nn → (Value.int .i64 (P i)).oneCell' = true := fun i _ => rfl
      go_wp2_with (refine wpList_copy_rd rfl (.tmp 48) (.tmp 49) 28 28 rfl 3 Try.underlying28 Try.cell3 (some a0) nn cn w1.heap.size rfl rfl 3 _ _ hrow hrd1 hone w1.heap.size (Nat.le_refl _) ?_; intro w2 hb2 hz2 hrow2)
      go_meet
      case rel => exact ⟨_, _, rfl, Rd.ofRow hrow2, ((Below.refl _ _).alloc (Nat.le_refl _) _).trans hb2⟩
  case rest =>
  obtain ⟨a2, c2, rfl, hP2, hB2⟩ := hcut
  obtain ⟨w2, rfl⟩ : ∃ w2 : World, w2 = wc := ⟨_, rfl⟩
  have hH2 := hH1.below hB2 (Nat.le_refl _)
  have hBB : Below w'.heap.size w' w2 := hB1.trans (hB2.mono hB1.size)
  have hG2 := hG.below hBB (Nat.le_refl _)
  have hR2 : ∀ k, k < m → Rd w2 (A k) (L k) (fun j => .int .i64 (R k j)) := fun k hk => (hR k hk).below hBB (Nat.le_refl _)
  clear hmkI hP hH1 hB1 hB2 hG hR
  go_wp2
  go_loop [9, 10] (fun t i => ∃ (k : Nat) (z : Int), k ≤ m ∧ i = .int .i64 k ∧ t = .int .i64 z) (fun _ i => m - (intOf i).toNat)
  case atStart => exact ⟨0, _, Nat.zero_le _, rfl, rfl⟩
  case round =>
    obtain ⟨k, z, hk, rfl, rfl⟩ := hrel
    by_cases hlt : k < m
    · obtain ⟨b1, o1, rfl, hbl1, hc1⟩ := hG2.one (by omega)
      have e1 := hc1 k hlt
      have hLk := l4 k hlt
      clear hc1 hG2 hR2 hH2 hP2 l4
      by_cases r1 : 131072 < L k
      · go_wp2
        go_ret
        exact ⟨rfl, hBB⟩
      go_wp2
      · go_ret
        exact ⟨rfl, hBB⟩
      · go_round
        case rel => exact ⟨k + 1, _, by omega, by go_num, rfl⟩
        case measure => simp [intOf]; omega
    · have hke : ¬ ((k : Int) < (m : Int)) := by omega
      clear hlt hk
      by_cases r3 : 1048576 < z
      · go_wp2
        go_ret
        exact ⟨rfl, hBB⟩
      go_wp2_with fail
      refine (domain14 a1 nh c1 ga m gc A L Cp a2 nn c2 P w2 l1 (by omega) (by omega) l4 hG2 hP2).mono ?_
      rintro e w3 ⟨⟨bb, rfl, hbb⟩, rfl⟩
      cases bb
      · go_wp2
        go_ret
        exact ⟨rfl, hBB⟩
      obtain ⟨g1, g2, g3⟩ := hbb rfl
      subst g1
      clear hbb l4
      have hG3 : Rd w3 ga m (fun k => .slice (A k) nh (Cp k)) := hG2.congr fun k hk => by rw [g3 k hk]
      have hR3 : ∀ k, k < m → Rd w3 (A k) nh (fun j => .int .i64 (R k j)) := fun k hk => by have := hR2 k hk; rwa [g3 k hk] at this
      have c15 := zzdec15 nh m C P R a1 c1 ga gc A Cp a2 c2 w3 (by omega) (by omega) hga hH2 hG3 hnil hR3 hP2
      clear hG2 hR2 g3
      go_wp2_with fail
      refine c15.mono ?_
      rintro e w4 ⟨g, rfl, hg4, hb4⟩
      have hBB4 : Below w'.heap.size w' w4 := hBB.trans (hb4.mono hBB.size)
      have hH4 := hH2.below hb4 (Nat.le_refl _)
      have hP4 := hP2.below hb4 (Nat.le_refl _)
      have hG4 := hG3.below hb4 (Nat.le_refl _)
      have hR4 : ∀ k, k < m → Rd w4 (A k) nh (fun j => .int .i64 (R k j)) := fun k hk => (hR3 k hk).below hb4 (Nat.le_refl _)
      have c16 := model16 nh m C P R a1 c1 ga gc A Cp a2 c2 w4 (by omega) (by omega) hH4 hG4 hR4 hP4
      clear hH2 hP2 hG3 hR3 hb4 c15 hBB g2 hga hnil hH4 hP4 hG4 hR4
      generalize decAcc C P R nh m = acc at c16 ⊢
      generalize decSt C P R nh m = st at hg4 c16
      go_wp2_with fail
      refine c16.mono ?_
      rintro e w5 ⟨g', rfl, hg5, hb5⟩
      have hBB5 : Below w'.heap.size w' w5 := hBB4.trans (hb5.mono hBB4.size)
      have hst : ∀ i, i < nh → w5.cell? ⟨g, i, none⟩ = some (.int .i64 (st i)) := fun i hi => (hg4.of_block (hb5.block _ hg4.lt)).cell hi
      have hst' : ∀ i, i < nh → w5.cell? ⟨g', i, none⟩ = some (.int .i64 (st i)) := fun i hi => hg5.cell hi
      clear hg4 hg5 hb5 hBB4 c16
      go_wp2
      go_loopg [15] nh (fun g0 i wr => ∃ (k q : Nat), k ≤ nh ∧ g0 = nh - k ∧ i = .int .i64 k ∧ wr = w5.drewN q)
      case atStart => exact ⟨0, 0, Nat.zero_le _, rfl, rfl, rfl⟩
      case round =>
        obtain ⟨k, q, hk, rfl, rfl, rfl⟩ := hrel
        by_cases hlt : k < nh
        · have e1 := hst k hlt
          have e2 := hst' k hlt
          clear hst hst'
          go_wp2
          go_quiet (fail)
          go_wp2
          go_roundg (nh - (k + 1))
          case measure => go_light; omega
          case rel => go_light; exact ⟨k + 1, _, by omega, rfl, by go_num, rfl⟩
        · clear hst hst'
          cases acc
          · go_wp2
            go_ret
            exact ⟨rfl, below_drewN hBB5 _⟩
          · go_wp2
            go_ret
            exact ⟨rfl, below_drewN hBB5 _⟩

end Go.Proofs.Qxb6612369a
