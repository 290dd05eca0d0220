import Derived.Test.Qxb6612369aDecZZ3
import Derived.Test.Qxb6612369aDecLaw
import Derived.Test.Qxb6612369aDecDom
import Derived.Deep.CutRange
namespace Go.Proofs.Qxb6612369a
open Go.RowKit

theorem Try.info4 : (Try.prog.info? 4).map (fun i => (i.zero, i.size, i.bytes)) = some (some (.bool false), 1, 1) := by kernel_rfl
theorem Try.cell4 : (Try.prog.info? 4).map (·.size) = some 1 := by kernel_rfl
theorem Try.cell3 : (Try.prog.info? 3).map (·.size) = some 1 := by kernel_rfl

theorem zzdec15 (n m : Nat) (C : Nat → Bool) (P : Nat → Int) (R : Nat → Nat → Int) (ha : Option Addr) (hcp : Nat) (ga : Option Addr) (gc : Nat) (A : Nat → Option Addr) (Cp : Nat → Nat) (pa : Option Addr) (pc : Nat) (w : World)
    (hn : n ≤ 131072) (hm : m ≤ 65536) (hga : ga = none → m = 0 ∧ gc = 0) (hH : Rd w ha n (fun i => .bool (C i))) (hG : Rd w ga m (fun k => .slice (A k) n (Cp k))) (hnil : ∀ k, k < m → A k = none → Cp k = 0) (hR : ∀ k, k < m → Rd w (A k) n (fun j => .int .i64 (R k j))) (hP : Rd w pa n (fun j => .int .i64 (P j))) :
    Calls Try.prog 15 #[.slice ha n hcp, .slice ga m gc, .slice pa n pc] w fun e w' => ∃ g,
      e = .returned (.tuple #[.slice (some ⟨g, 0, none⟩) n n, .bool (decAcc C P R n m)]) ∧ w'.rowIs g 3 n (fun i => .int .i64 (decSt C P R n m i)) ∧ Below w.heap.size w w' := by
  cases ga with
  | none =>
    obtain ⟨rfl, rfl⟩ := hga rfl
    exact zzdec_nil n C P R ha hcp pa pc w hn hH hP
  | some a => exact zzdec_some n m C P R ha hcp a gc A Cp pa pc w hn hm hH hG hnil hR hP

set_option maxRecDepth 100000 in
set_option maxHeartbeats 4000000 in
theorem accepts6 (ah : Option Addr) (nh ch : Nat) (ga : Option Addr) (m gc : Nat) (A : Nat → Option Addr) (L Cp : Nat → Nat) (an : Option Addr) (nn cn : Nat) (C : Nat → Bool) (P : Nat → Int) (R : Nat → Nat → Int) (w : World)
    (hh : nh ≤ maxLen) (hm : m ≤ maxLen) (hnn : nn ≤ maxLen) (hL : ∀ k, k < m → L k ≤ maxLen) (hga : ga = none → m = 0 ∧ gc = 0) (hnil : ∀ k, k < m → A k = none → Cp k = 0)
    (hH : Rd w ah nh (fun i => .bool (C i))) (hG : Rd w ga m (fun k => .slice (A k) (L k) (Cp k))) (hR : ∀ k, k < m → Rd w (A k) (L k) (fun j => .int .i64 (R k j))) (hP : Rd w an nn (fun i => .int .i64 (P i))) :
    Calls Try.prog 6 #[.slice ah nh ch, .slice ga m gc, .slice an nn cn] w fun e w' => e = .returned (.bool true) ∧ Below w.heap.size w w' := by
  have hhm := hh
  have hmm := hm
  have hnm := hnn
  unfold maxLen at hhm hmm hnm
  go_enter Try.func6, Try.ntmps6
  go_wp2_with fail
  refine (bytes17 ah nh ch ga m gc A L Cp an nn cn w hh hm hnn hL hG).mono ?_
  rintro e w' ⟨⟨bb, rfl, hbb⟩, rfl⟩
  cases bb
  · go_wp2
    go_ret
    exact ⟨rfl, Below.refl _ _⟩
  obtain ⟨l1, l2, l3, l4⟩ := hbb rfl
  clear hbb hL hh hm hnn
  by_cases q2 : 131072 < nn
  · go_wp2
    go_ret
    exact ⟨rfl, Below.refl _ _⟩
  by_cases q3 : 65536 < m
  · go_wp2
    go_ret
    exact ⟨rfl, Below.refl _ _⟩
  have hmkB := run_make_row' (P := Try.prog) 26 4 (.bool false) 1 Try.underlying26 Try.info4 rfl .i64 .i64 nh (by omega) (by omega)
  have hmkI := run_make_row' (P := Try.prog) 28 3 (.int .i64 0) 8 Try.underlying28 Try.info3 rfl .i64 .i64 nn (by omega) (by omega)
  go_upto_if 41 with fail
  go_cut [0] from 22 (fun s0 wx => ∃ a c, s0 = .slice a nh c ∧ Rd wx a nh (fun i => .bool (C i)) ∧ Below w'.heap.size w' wx)
  case first =>
    cases ah with
    | none =>
      have hne := fun w => run_neq_slice_nil_any (P := Try.prog) w 26 4 none nh ch 0 0 Try.underlying26
      go_wp2_with fail
      go_meet
      case rel => exact ⟨_, _, rfl, hH, Below.refl _ _⟩
    | some a0 =>
      have hrow := World.rowIs_made w' (.bool false) nh 4
      have hrd1 : Rd (w'.alloc (.cells (madeCells #[.bool false] nh) 4)) (some a0) nh (fun i => .bool (C i)) := hH.below ((Below.refl w'.heap.size w').alloc (Nat.le_refl _) _) (Nat.le_refl _)
      have hone : ∀ i, i < nh → (Value.bool (C i)).oneCell' = true := fun i _ => rfl
      go_wp2_with (refine wpList_copy_rd rfl (.tmp 45) (.tmp 46) 26 26 rfl 4 Try.underlying26 Try.cell4 (some a0) nh ch w'.heap.size rfl rfl 4 _ _ hrow hrd1 hone w'.heap.size (Nat.le_refl _) ?_; intro w1 hb1 hz1 hrow1)
      go_meet
      case rel => exact ⟨_, _, rfl, Rd.ofRow hrow1, ((Below.refl _ _).alloc (Nat.le_refl _) _).trans hb1⟩
  case rest =>
  obtain ⟨a1, c1, rfl, hH1, hB1⟩ := hcut
  clear hmkB hH
  obtain ⟨w1, rfl⟩ : ∃ w1 : World, w1 = wc := ⟨_, rfl⟩
  go_upto_if 50 with fail
  go_cut [2] from 22 (fun s2 wx => ∃ a c, s2 = .slice a nn c ∧ Rd wx a nn (fun i => .int .i64 (P i)) ∧ Below w1.heap.size w1 wx)
  case first =>
    have hP1 := hP.below hB1 (Nat.le_refl _)
    cases an with
    | none =>
      have hne := fun w => run_neq_slice_nil_any (P := Try.prog) w 28 3 none nn cn 0 0 Try.underlying28
      go_wp2_with fail
      go_meet
      case rel => exact ⟨_, _, rfl, hP1, Below.refl _ _⟩
    | some a0 =>
      have hrow := World.rowIs_made w1 (.int .i64 0) nn 3
      have hrd1 : Rd (w1.alloc (.cells (madeCells #[.int .i64 0] nn) 3)) (some a0) nn (fun i => .int .i64 (P i)) := hP1.below ((Below.refl w1.heap.size w1).alloc (Nat.le_refl _) _) (Nat.le_refl _)
      have hone : ∀ i, i < nn → (Value.int .i64 (P i)).oneCell' = true := fun i _ => rfl
      go_wp2_with (refine wpList_copy_rd rfl (.tmp 54) (.tmp 55) 28 28 rfl 3 Try.underlying28 Try.cell3 (some a0) nn cn w1.heap.size rfl rfl 3 _ _ hrow hrd1 hone w1.heap.size (Nat.le_refl _) ?_; intro w2 hb2 hz2 hrow2)
      go_meet
      case rel => exact ⟨_, _, rfl, Rd.ofRow hrow2, ((Below.refl _ _).alloc (Nat.le_refl _) _).trans hb2⟩
  case rest =>
  obtain ⟨a2, c2, rfl, hP2, hB2⟩ := hcut
  obtain ⟨w2, rfl⟩ : ∃ w2 : World, w2 = wc := ⟨_, rfl⟩
  have hH2 := hH1.below hB2 (Nat.le_refl _)
  have hBB : Below w'.heap.size w' w2 := hB1.trans (hB2.mono hB1.size)
  have hG2 := hG.below hBB (Nat.le_refl _)
  have hR2 : ∀ k, k < m → Rd w2 (A k) (L k) (fun j => .int .i64 (R k j)) := fun k hk => (hR k hk).below hBB (Nat.le_refl _)
  clear hmkI hP hH1 hB1 hB2 hG hR
  go_wp2
  go_loop [9, 10] (fun t i => ∃ (k : Nat) (z : Int), k ≤ m ∧ i = .int .i64 k ∧ t = .int .i64 z) (fun _ i => m - (intOf i).toNat)
  case atStart => exact ⟨0, _, Nat.zero_le _, rfl, rfl⟩
  case round =>
    obtain ⟨k, z, hk, rfl, rfl⟩ := hrel
    by_cases hlt : k < m
    · obtain ⟨b1, o1, rfl, hbl1, hc1⟩ := hG2.one (by omega)
      have e1 := hc1 k hlt
      have hLk := l4 k hlt
      clear hc1 hG2 hR2 hH2 hP2 l4
      by_cases r1 : 131072 < L k
      · go_wp2
        go_ret
        exact ⟨rfl, hBB⟩
      go_wp2
      · go_ret
        exact ⟨rfl, hBB⟩
      · go_round
        case rel => exact ⟨k + 1, _, by omega, by go_num, rfl⟩
        case measure => simp [intOf]; omega
    · have hke : ¬ ((k : Int) < (m : Int)) := by omega
      clear hlt hk
      by_cases r3 : 1048576 < z
      · go_wp2
        go_ret
        exact ⟨rfl, hBB⟩
      go_wp2_with fail
      refine (domain14 a1 nh c1 ga m gc A L Cp a2 nn c2 P w2 l1 (by omega) (by omega) l4 hG2 hP2).mono ?_
      rintro e w3 ⟨⟨bb, rfl, hbb⟩, rfl⟩
      cases bb
      · go_wp2
        go_ret
        exact ⟨rfl, hBB⟩
      obtain ⟨g1, g2, g3⟩ := hbb rfl
      subst g1
      clear hbb l4
      have hG3 : Rd w3 ga m (fun k => .slice (A k) nh (Cp k)) := hG2.congr fun k hk => by rw [g3 k hk]
      have hR3 : ∀ k, k < m → Rd w3 (A k) nh (fun j => .int .i64 (R k j)) := fun k hk => by have := hR2 k hk; rwa [g3 k hk] at this
      have c15 := zzdec15 nh m C P R a1 c1 ga gc A Cp a2 c2 w3 (by omega) (by omega) hga hH2 hG3 hnil hR3 hP2
      clear hG2 hR2 g3
      go_wp2_with fail
      refine c15.mono ?_
      rintro e w4 ⟨g, rfl, hg4, hb4⟩
      have hBB4 : Below w'.heap.size w' w4 := hBB.trans (hb4.mono hBB.size)
      have hH4 := hH2.below hb4 (Nat.le_refl _)
      have hP4 := hP2.below hb4 (Nat.le_refl _)
      have hG4 := hG3.below hb4 (Nat.le_refl _)
      have hR4 : ∀ k, k < m → Rd w4 (A k) nh (fun j => .int .i64 (R k j)) := fun k hk => (hR3 k hk).below hb4 (Nat.le_refl _)
      have HT : Hid (∀ i, i < nh → (decSt C P R nh m i == 2) = (P i == 3)) := fun i hi => decSt_two g2 i hi
      have HZ : Hid (nFail P nh = 0 → ∀ i, decSt C P R nh m i = 1) := fun h i => decSt_zero h i
      have HF : Hid (nFail P nh ≠ 0 → ∀ i, i < nh → reach (P i) (C i) (decSt C P R nh m i) = true) := fun h i hi => by rw [reach_eq]; exact decSt_fs g2 h i hi
      have HV : Hid (decAcc C P R nh m = (decide (nFail P nh ≤ 1) && (m == 0 || isRow (decSt C P R nh m) R nh m))) := dec_verdict g2
      clear hH2 hP2 hG3 hR3 hb4 c15 hBB g2 hga hnil
      generalize decAcc C P R nh m = acc at HV ⊢
      generalize decSt C P R nh m = st at hg4 HT HZ HF HV
      have hst : ∀ i, i < nh → w4.cell? ⟨g, i, none⟩ = some (.int .i64 (st i)) := fun i hi => hg4.cell hi
      clear hg4
      go_wp2
      go_loop [14, 15] (fun t i => ∃ k : Nat, k ≤ nh ∧ i = .int .i64 k ∧ t = .int .i64 (nFail P k : Nat)) (fun _ i => nh - (intOf i).toNat)
      case atStart => exact ⟨0, Nat.zero_le _, rfl, rfl⟩
      case round =>
        obtain ⟨k, hk, rfl, rfl⟩ := hrel
        by_cases hlt : k < nh
        · obtain ⟨b2, o2, rfl, hbl2, hc2⟩ := hP4.one (by omega)
          have hck := hc2 k hlt
          have hle := nFail_le P k
          clear hc2 hP4 hH4 hG4 hR4 hst
          by_cases h3 : P k = 3
          · rw [h3] at hck
            go_wp2
            go_round
            case rel => exact ⟨k + 1, by omega, by go_num, by simp only [nFail]; rw [if_pos h3]; go_num⟩
            case measure => simp [intOf]; omega
          · have h3' : (P k == 3) = false := by simp [h3]
            go_wp2
            go_round
            case rel => exact ⟨k + 1, by omega, by go_num, by simp only [nFail]; rw [if_neg h3]; go_num⟩
            case measure => simp [intOf]; omega
        · obtain rfl : nh = k := by omega
          have hfle := nFail_le P nh
          generalize nFail P nh = f at HZ HF HV hfle ⊢
          clear hke r3 hlt hk
          go_wp2
          go_loopg [16] nh (fun g0 i wr => ∃ (k q : Nat), k ≤ nh ∧ g0 = nh - k ∧ i = .int .i64 k ∧ wr = w4.drewN q)
          case atStart => exact ⟨0, 0, Nat.zero_le _, rfl, rfl, rfl⟩
          case round =>
            obtain ⟨k, q, hk, rfl, rfl, rfl⟩ := hrel
            by_cases hlt : k < nh
            · obtain ⟨b2, o2, rfl, hbl2, hc2⟩ := hP4.one (by omega)
              obtain ⟨b3, o3, rfl, hbl3, hc3⟩ := hH4.one (by omega)
              have e2 := hc2 k hlt
              have e3 := hc3 k hlt
              have e4 := hst k hlt
              have ht := HT.out k hlt
              clear hc2 hc3 hP4 hH4 hG4 hR4 hst HT HV
              by_cases hf0 : f = 0
              · have hs1 := HZ.out hf0 k
                rw [hs1] at e4 ht
                have ht' : (P k == 3) = false := by rw [← ht]; rfl
                subst hf0
                clear HZ HF ht hs1
                go_wp2
                go_quiet (fail)
                go_wp2
                go_quiet (fail)
                go_wp2
                go_roundg (nh - (k + 1))
                case measure => go_light; omega
                case rel => go_light; exact ⟨k + 1, _, by omega, rfl, by go_num, rfl⟩
              · have hre := HF.out hf0 k hlt
                have hfz : ((f : Int) == 0) = false := by rw [beq_eq_false_iff_ne]; omega
                have hf1 : (1 : Int) ≤ (f : Int) := by omega
                have hf1' : decide ((1 : Int) ≤ (f : Int)) = true := by simpa using hf1
                clear HZ HF
                go_wp2
                go_quiet (fail)
                go_wp2
                go_quiet ((go_at_call 18; exact (reach18 _ _ _ _).mono fun e w'' ⟨he, hw⟩ => ⟨he, _, hw⟩))
                go_wp2
                go_roundg (nh - (k + 1))
                case measure => go_light; omega
                case rel => go_light; exact ⟨k + 1, _, by omega, rfl, by go_num, rfl⟩
            · clear HT HZ HF hP4 hH4
              have HR0 : Hid (isRow st R nh 0 = false) := rfl
              go_wp2
              go_loopg [17, 18] m (fun g0 t i wr => ∃ (k q : Nat), k ≤ m ∧ g0 = m - k ∧ i = .int .i64 k ∧ t = .bool (isRow st R nh k) ∧ wr = w4.drewN q)
              case atStart => exact ⟨0, q, Nat.zero_le _, rfl, rfl, by rw [HR0.out], rfl⟩
              case round =>
                clear HR0
                obtain ⟨x, q, hx, rfl, rfl, rfl, rfl⟩ := hrel
                by_cases hxm : x < m
                · obtain ⟨b2, o2, rfl, hbl2, hc2⟩ := hG4.one (by omega)
                  have e2 := hc2 x hxm
                  have hRx := hR4 x hxm
                  have HS : Hid (isRow st R nh (x + 1) = (isRow st R nh x || allTo (fun j => R x j == st j) nh)) := rfl
                  have HA0 : Hid (allTo (fun j => R x j == st j) 0 = true) := rfl
                  clear hc2 hG4 hR4 HV
                  go_wp2
                  go_loopg [19, 20] nh (fun g0 t i wr => ∃ (j q : Nat), j ≤ nh ∧ g0 = nh - j ∧ i = .int .i64 j ∧ t = .bool (allTo (fun j => R x j == st j) j) ∧ wr = w4.drewN q)
                  case atStart => exact ⟨0, q, Nat.zero_le _, rfl, rfl, by rw [HA0.out], rfl⟩
                  case round =>
                    clear HA0
                    obtain ⟨j, q, hj, rfl, rfl, rfl, rfl⟩ := hrel
                    by_cases hjl : j < nh
                    · obtain ⟨b3, o3, hAx, hbl3, hc3⟩ := hRx.one (by omega)
                      rw [hAx] at e2
                      have e3 := hc3 j hjl
                      have e4 := hst j hjl
                      have HA : Hid (allTo (fun j => R x j == st j) (j + 1) = (allTo (fun j => R x j == st j) j && (R x j == st j))) := rfl
                      clear hc3 hAx hRx hst
                      by_cases heq : R x j = st j
                      · have hbe : (R x j != st j) = false := by simp [heq]
                        have HE : Hid ((R x j == st j) = true) := by show _ = _; simp [heq]
                        clear heq
                        go_wp2
                        go_quiet (fail)
                        go_wp2
                        go_roundg (nh - (j + 1))
                        case measure => go_light; omega
                        case rel => go_light; exact ⟨j + 1, _, by omega, rfl, by go_num, by rw [HA.out, HE.out, Bool.and_true], rfl⟩
                      · have hbe : (R x j != st j) = true := by simp [heq]
                        have HE : Hid ((R x j == st j) = false) := by show _ = _; simp [heq]
                        clear heq
                        go_wp2
                        go_quiet (fail)
                        go_wp2
                        go_roundg (nh - (j + 1))
                        case measure => go_light; omega
                        case rel => go_light; exact ⟨j + 1, _, by omega, rfl, by go_num, by rw [HA.out, HE.out, Bool.and_false], rfl⟩
                    · obtain rfl : nh = j := by omega
                      generalize allTo (fun j => R x j == st j) nh = al at HS ⊢
                      clear hRx hst
                      cases al
                      · go_wp2
                        go_roundg (m - (x + 1))
                        case measure => go_light; omega
                        case rel => go_light; exact ⟨x + 1, _, by omega, rfl, by go_num, by rw [HS.out, Bool.or_false], rfl⟩
                      · go_wp2
                        go_roundg (m - (x + 1))
                        case measure => go_light; omega
                        case rel => go_light; exact ⟨x + 1, _, by omega, rfl, by go_num, by rw [HS.out, Bool.or_true], rfl⟩
                · obtain rfl : m = x := by omega
                  generalize isRow st R nh m = ir at HV ⊢
                  have hv := HV.out
                  clear HV hG4 hR4 hst
                  by_cases hf1 : f ≤ 1
                  · have hfz : (f : Int) ≤ 1 := by omega
                    have hfd : decide ((f : Int) ≤ 1) = true := by simpa using hfz
                    by_cases hm0 : m = 0
                    · subst hm0
                      obtain rfl : acc = true := by rw [hv]; simp [hf1]
                      clear hv
                      go_wp2
                      go_ret
                      exact ⟨rfl, below_drewN hBB4 _⟩
                    · have hmz : ((m : Int) == 0) = false := by rw [beq_eq_false_iff_ne]; omega
                      obtain rfl : acc = ir := by rw [hv]; simp [hf1, hm0]
                      clear hv
                      cases acc
                      · go_wp2
                        go_ret
                        exact ⟨rfl, below_drewN hBB4 _⟩
                      · go_wp2
                        go_ret
                        exact ⟨rfl, below_drewN hBB4 _⟩
                  · have hfz : ¬ ((f : Int) ≤ 1) := by omega
                    have hfd : decide ((f : Int) ≤ 1) = false := by simpa using hfz
                    obtain rfl : acc = false := by rw [hv]; simp [hf1]
                    clear hv
                    go_wp2
                    go_ret
                    exact ⟨rfl, below_drewN hBB4 _⟩

end Go.Proofs.Qxb6612369a
