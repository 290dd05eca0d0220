import Derived.Test.Qxb6609301aPart
namespace Go.Proofs.Qxb6609301a
open Go.RowKit

theorem Try.cell30 : (Try.prog.info? 30).map (·.size) = some 1 := by kernel_rfl

set_option maxRecDepth 100000 in
set_option maxHeartbeats 8000000 in
theorem law4 (a1 a2 : Option Addr) (n1 n2 c1 c2 : Nat) (S G : Nat → ByteArray) (w : World)
    (h1 : n1 ≤ maxLen) (h2 : n2 ≤ maxLen) (hS : Rd w a1 n1 (fun i => .string (S i))) (hG : Rd w a2 n2 (fun i => .string (G i))) (sS : ∀ i, i < n1 → (S i).size ≤ maxLen) (sG : ∀ i, i < n2 → (G i).size ≤ maxLen) :
    Calls Try.prog 4 #[.slice a1 n1 c1, .slice a2 n2 c2] w fun e w' => e = .returned (.bool true) ∧ Below w.heap.size w w' := by
  have cb := bytes11s a1 a2 n1 c1 n2 c2 S G w h1 h2 hS hG sS sG
  have ct := fun x y => tooBig6 a1 a2 n1 c1 n2 c2 S G ⟨#[]⟩ w x y (by decide) hS hG sS sG
  have co := fun x y => ordered7 a1 a2 n1 c1 n2 c2 S G w x y hS hG
  unfold maxLen at h1 h2
  clear sS sG
  go_enter Try.func4, Try.ntmps4
  go_wp2_with fail
  refine cb.mono ?_
  rintro e w' ⟨hb, rfl⟩
  obtain ⟨bb, rfl, hbb⟩ := hb.out
  clear hb cb
  cases bb
  · as_aux_lemma =>
    go_wp2
    go_ret
    exact ⟨rfl, Below.refl _ _⟩
  have HZ : Hid (∀ i, i < n1 → (S i).size ≤ 1048576) := hbb rfl
  clear hbb
  by_cases q1 : 65536 < n1
  · as_aux_lemma =>
    clear ct co
    go_wp2
    go_ret
    exact ⟨rfl, Below.refl _ _⟩
  by_cases q2 : 65536 < n2
  · as_aux_lemma =>
    clear ct co
    go_wp2
    go_ret
    exact ⟨rfl, Below.refl _ _⟩
  have ct' := ct (by omega) (by omega)
  have co' := co (by omega) (by omega)
  clear ct co
  go_wp2_with fail
  refine ct'.mono ?_
  rintro e w2 ⟨hb, rfl⟩
  obtain ⟨bb, rfl⟩ := hb.out
  clear hb ct'
  cases bb
  case true => as_aux_lemma =>
    go_wp2
    go_ret
    exact ⟨rfl, Below.refl _ _⟩
  go_wp2_with fail
  refine co'.mono ?_
  rintro e w1 ⟨hb, q, hw1⟩
  obtain ⟨bb, rfl, hbb⟩ := hb.out
  have hB0 : Below w2.heap.size w2 w1 := hw1 ▸ below_drewN (Below.refl _ _) _
  clear hb co' hw1
  cases bb
  · as_aux_lemma =>
    go_wp2
    go_ret
    exact ⟨rfl, hB0⟩
  obtain ⟨rfl, hA⟩ := hbb rfl
  have HA : Hid (Asc S n2) := hA
  have hS1 := hS.below hB0 (Nat.le_refl _)
  have hG1 := hG.below hB0 (Nat.le_refl _)
  clear hA hbb hS hG
  have hmk := run_make_row' (P := Try.prog) 22 9 (.string ⟨#[]⟩) 16 Try.underlying22 Try.info9 rfl .i64 .i64 n2 (by omega) (by omega)
  go_upto_if 37 with fail
  go_cut [0] from 17 (fun s0 wx => ∃ a c, s0 = .slice a n2 c ∧ Rd wx a n2 (fun i => .string (S i)) ∧ Below w1.heap.size w1 wx)
  case first => as_aux_lemma =>
    cases a1 with
    | none =>
      have hne := fun w => run_neq_slice_nil_any (P := Try.prog) w 22 9 none n2 c1 0 0 Try.underlying22
      go_wp2_with fail
      go_meet
      case rel => exact ⟨_, _, rfl, hS1, Below.refl _ _⟩
    | some x0 =>
      have hrow := World.rowIs_made w1 (.string ⟨#[]⟩) n2 9
      have hrd1 : Rd (w1.alloc (.cells (madeCells #[.string ⟨#[]⟩] n2) 9)) (some x0) n2 (fun i => .string (S i)) := hS1.below ((Below.refl w1.heap.size w1).alloc (Nat.le_refl _) _) (Nat.le_refl _)
      have hone : ∀ i, i < n2 → (Value.string (S i)).oneCell' = true := fun i _ => rfl
      go_wp2_with (refine wpList_copy_rd rfl (.tmp 41) (.tmp 42) 22 22 rfl 9 Try.underlying22 Try.cell9 (some x0) n2 c1 w1.heap.size rfl rfl 9 _ _ hrow hrd1 hone w1.heap.size (Nat.le_refl _) ?_; intro wk hbk hzk hrowk)
      go_meet
      case rel => exact ⟨_, _, rfl, Rd.ofRow hrowk, ((Below.refl _ _).alloc (Nat.le_refl _) _).trans hbk⟩
  case rest =>
  obtain ⟨b1, d0, rfl, hS1', hBx⟩ := hcut
  obtain ⟨w3, rfl⟩ : ∃ x : World, x = wc := ⟨_, rfl⟩
  clear hS1
  have hG3 := hG1.below hBx (Nat.le_refl _)
  have hBa := hB0.trans (hBx.mono hB0.size)
  clear hG1 hBx hB0
  go_upto_if 46 with fail
  go_cut [1] from 17 (fun s0 wx => ∃ a c, s0 = .slice a n2 c ∧ Rd wx a n2 (fun i => .string (G i)) ∧ Below w3.heap.size w3 wx)
  case first => as_aux_lemma =>
    cases a2 with
    | none =>
      have hne := fun w => run_neq_slice_nil_any (P := Try.prog) w 22 9 none n2 c2 0 0 Try.underlying22
      go_wp2_with fail
      go_meet
      case rel => exact ⟨_, _, rfl, hG3, Below.refl _ _⟩
    | some x0 =>
      have hrow := World.rowIs_made w3 (.string ⟨#[]⟩) n2 9
      have hrd1 : Rd (w3.alloc (.cells (madeCells #[.string ⟨#[]⟩] n2) 9)) (some x0) n2 (fun i => .string (G i)) := hG3.below ((Below.refl w3.heap.size w3).alloc (Nat.le_refl _) _) (Nat.le_refl _)
      have hone : ∀ i, i < n2 → (Value.string (G i)).oneCell' = true := fun i _ => rfl
      go_wp2_with (refine wpList_copy_rd rfl (.tmp 50) (.tmp 51) 22 22 rfl 9 Try.underlying22 Try.cell9 (some x0) n2 c2 w3.heap.size rfl rfl 9 _ _ hrow hrd1 hone w3.heap.size (Nat.le_refl _) ?_; intro wk hbk hzk hrowk)
      go_meet
      case rel => exact ⟨_, _, rfl, Rd.ofRow hrowk, ((Below.refl _ _).alloc (Nat.le_refl _) _).trans hbk⟩
  case rest =>
  obtain ⟨b2, d1, rfl, hG3', hB1⟩ := hcut
  obtain ⟨w4, rfl⟩ : ∃ x : World, x = wc := ⟨_, rfl⟩
  clear hG3
  have hS4 := hS1'.below hB1 (Nat.le_refl _)
  have hG4 := hG3'
  have hBb := hBa.trans (hB1.mono hBa.size)
  clear hS1' hG3' hB1 hBa hmk
  go_upto_region 17 with fail
  go_cut [7] from 17 (fun s7 wx => ∃ ab pa pc P, s7 = .pointer (some ⟨ab, 0, none⟩) ∧ wx.cell? ⟨ab, 4, none⟩ = some (.slice pa n2 pc) ∧ n2 ≤ pc ∧ (pa = none → n2 = 0 ∧ pc = 0) ∧ Poss wx pa n2 P S G ∧ Below w4.heap.size w4 wx)
  case first => as_aux_lemma =>
    by_cases h0 : 0 < n2
    · obtain ⟨x2, o2, e2, _, hg2⟩ := hG4.one (by omega)
      subst e2
      have g0 := hg2 0 h0
      rw [Nat.add_zero] at g0
      have h0' : (0 : Int) < n2 := by omega
      clear hg2
      go_wp2_with fail
      refine (newAccount8 _ b1 (some ⟨x2, o2, none⟩) n2 d0 d1 S G _ w4 (by omega) hS4 hG4).mono ?_
      rintro e w5 ⟨ab, pa, pc, P, rfl, hcell, hcap, hnil, hP, hB5⟩
      have HX : Hid (w5.cell? ⟨ab, 4, none⟩ = some (.slice pa n2 pc) ∧ n2 ≤ pc ∧ (pa = none → n2 = 0 ∧ pc = 0) ∧ Poss w5 pa n2 P S G ∧ Below w4.heap.size w4 w5) := ⟨hcell, hcap, hnil, hP, hB5⟩
      clear hcell hnil hP hB5
      go_wp2_with fail
      go_meet
      case rel => exact ⟨ab, pa, pc, P, rfl, HX.out⟩
    · have h0' : ¬ ((0 : Int) < n2) := by omega
      go_wp2_with fail
      refine (newAccount8 _ b1 b2 n2 d0 d1 S G _ w4 (by omega) hS4 hG4).mono ?_
      rintro e w5 ⟨ab, pa, pc, P, rfl, hcell, hcap, hnil, hP, hB5⟩
      have HX : Hid (w5.cell? ⟨ab, 4, none⟩ = some (.slice pa n2 pc) ∧ n2 ≤ pc ∧ (pa = none → n2 = 0 ∧ pc = 0) ∧ Poss w5 pa n2 P S G ∧ Below w4.heap.size w4 w5) := ⟨hcell, hcap, hnil, hP, hB5⟩
      clear hcell hnil hP hB5
      go_wp2_with fail
      go_meet
      case rel => exact ⟨ab, pa, pc, P, rfl, HX.out⟩
  case rest =>
  obtain ⟨ab, pa, pc, P, rfl, hcell, hcap, hnil, hP, hB5⟩ := hcut
  obtain ⟨w5, rfl⟩ : ∃ x : World, x = wc := ⟨_, rfl⟩
  have HN : Hid (n2 ≤ pc ∧ (pa = none → n2 = 0 ∧ pc = 0)) := ⟨hcap, hnil⟩
  have hS5 := hS4.below hB5 (Nat.le_refl _)
  have hBc := hBb.trans (hB5.mono hBb.size)
  have c9 := positions9 ab _ pa n2 pc w5 rfl hcell
  have hPr := hP.rd
  clear hS4 hG4 hBb hB5 hnil hcap
  have hmk := run_make_row' (P := Try.prog) 27 30 (.pointer none) 8 Try.underlying27 Try.info30 rfl .i64 .i64 n2 (by omega) (by omega)
  have hrow := World.rowIs_made w5 (.pointer none) n2 30
  have hrd1 : Rd (w5.alloc (.cells (madeCells #[.pointer none] n2) 30)) pa n2 (fun i => .pointer (some ⟨P i, 0, none⟩)) := hPr.below ((Below.refl w5.heap.size w5).alloc (Nat.le_refl _) _) (Nat.le_refl _)
  have hone : ∀ i, i < n2 → (Value.pointer (some ⟨P i, 0, none⟩)).oneCell' = true := fun i _ => rfl
  go_wp2_with fail
  refine c9.mono ?_
  rintro e w6 ⟨rfl, rfl⟩
  go_wp2_with (refine wpList_copy_rd rfl (.tmp 76) (.tmp 77) 27 27 rfl 30 Try.underlying27 Try.cell30 pa n2 pc w6.heap.size rfl rfl 30 _ _ hrow hrd1 hone w6.heap.size (Nat.le_refl _) ?_; intro wk hbk hzk hrowk)
  have hBk : Below w6.heap.size w6 wk := ((Below.refl _ _).alloc (Nat.le_refl _) _).trans hbk
  have hBd := hBc.trans (hBk.mono hBc.size)
  have HH : Held wk ab pa pc n2 P S G b1 w6.heap.size := ⟨by rw [hBk.cell (p := ⟨ab, 4, none⟩) (World.block_lt_of_cell? _ _ hcell)]; exact hcell, hP.below hBk (Nat.le_refl _), hS5.below hBk (Nat.le_refl _), Rd.ofRow hrowk⟩
  clear c9 hPr hmk hrow hrd1 hone hbk hzk hrowk hcell hP hS5 hBk hBc
  generalize w6.heap.size = bf at HH ⊢
  go_loopg [10, 11] n2 (fun g vk vi wr => ∃ i k, i ≤ n2 ∧ g = n2 - i ∧ vi = .int .i64 (i : Nat) ∧ vk = .int .i64 (k : Nat) ∧ Below wk.heap.size wk wr ∧ Hid (Inv S n2 i k))
  case atStart => exact ⟨0, 0, Nat.zero_le _, rfl, rfl, rfl, Below.refl _ _, inv_start _ _⟩
  case round =>
    obtain ⟨i, k, hi, rfl, rfl, rfl, hBr, HI⟩ := hrel
    by_cases hlt : i < n2
    · obtain ⟨sb, so, rfl, _, _⟩ := HH.sym.one (by omega)
      have t1 : (0 : Int) ≤ i := by omega
      have t2 : (i : Int) < n2 := by omega
      go_upto_region 27 with fail
      go_cut [98] from 79 to 169 (fun c wx => c = .bool (sameB S i) ∧ Below wk.heap.size wk wx)
      case first => as_aux_lemma =>
        have hH := HH.below hBr (Nat.le_refl _)
        have s1 := hH.sym.get hlt
        by_cases hk0 : i = 0
        · subst hk0
          clear hH HH
          go_quiet (fail)
          go_wp2
          go_meet
          exact ⟨rfl, below_drewN hBr _⟩
        · obtain ⟨j, rfl⟩ : ∃ j, i = j + 1 := ⟨i - 1, by omega⟩
          have s0 := hH.sym.get (i := j) (by omega)
          have i1 : (0 : Int) ≤ (j : Int) + 1 := by omega
          have i2 : (j : Int) + 1 < n2 := by omega
          have i4 : (0 : Int) ≤ j := by omega
          have i5 : (j : Int) < n2 := by omega
          have i6 : IntKind.i64.wrap ((j : Int) + 1 - 1) = j := by rw [IntKind.wrap_i64]; omega
          have i7 : decide ((0 : Int) < (j : Int) + 1) = true := decide_eq_true (by omega)
          clear hH HH
          cases h10 : ((S (j + 1)).toList == (S j).toList)
          · go_quiet (fail)
            go_wp2
            go_meet
            exact ⟨by rw [sameB_succ h10], below_drewN hBr _⟩
          · go_quiet (fail)
            go_wp2
            go_meet
            exact ⟨by rw [sameB_succ h10], below_drewN hBr _⟩
      case rest =>
      obtain ⟨rfl, hB7⟩ := hcut
      obtain ⟨w7, rfl⟩ : ∃ x : World, x = wc := ⟨_, rfl⟩
      clear hBr
      have hH := HH.below hB7 (Nat.le_refl _)
      cases hsb : sameB S i
      case true =>
        have HJ : Hid (Inv S n2 (i + 1) k) := inv_same HA.out HI.out hlt (sameB_yes hsb).1 (sameB_yes hsb).2
        clear HH hH
        go_wp2
        go_roundg (n2 - (i + 1))
        case measure => go_light; omega
        case rel => go_light; exact ⟨i + 1, k, by omega, rfl, by go_num, rfl, hB7, HJ⟩
      case false =>
        have s1 := hH.sym.get hlt
        have c10 := posIn10 ab pa n2 pc P S G (S i) w7 (by omega) HN.out.1 HN.out.2 hH.acc hH.poss HA.out
        go_wp2_with fail
        refine c10.mono ?_
        rintro e w8 ⟨ra, i', q, rfl, hR, hD, hB8⟩
        obtain ⟨hk, hii, hiq, hJ⟩ := inv_new HA.out HI.out hlt (sameB_no hsb) hR
        obtain rfl := hk.symm
        obtain rfl := hii.symm
        have HJ0 : Hid (Inv S n2 (i + 1) q) := hJ
        have HR0 : Hid (Run S (S i) n2 i q) := hR
        have HE : Hid (∀ t, t < n2 → ((S t).toList == (S i).toList) = decide (i ≤ t ∧ t < q)) := fun t ht => run_iff HA.out hR ht
        have hqn := hR.bd
        have hH8 := hH.below hB8 (Nat.le_refl _)
        have hBy := hB7.trans (hB8.mono hB7.size)
        obtain ⟨m, hm1, hm2⟩ : ∃ m, m = q - i ∧ q = i + m := ⟨q - i, rfl, by omega⟩
        rw [← hm1] at hD ⊢
        subst hm2
        have hm0 : 0 < m := by omega
        have hm3 : ((m : Int) == 0) = false := by simp; omega
        clear hR hJ hH c10 hB8 hB7 HI hm1 s1
        go_wp2
        go_loopg [10, 13] m (fun g vk vt wi => ∃ t q, t ≤ m ∧ g = m - t ∧ vt = .int .i64 (t : Nat) ∧ vk = .int .i64 (i + t : Nat) ∧ wi = w8.drewN q)
        case atStart => exact ⟨0, 0, Nat.zero_le _, rfl, rfl, rfl, rfl⟩
        case round =>
          obtain ⟨t, q1, ht, rfl, rfl, rfl, rfl⟩ := hrel
          by_cases htm : t < m
          · have x1 := hH8.sym.get (i := i + t) (by omega)
            have x2 := hH8.bef.get (i := i + t) (by omega)
            have x3 := hH8.sym.get hlt
            rw [Nat.zero_add] at x2
            obtain ⟨rb, ro, rfl, _, hr⟩ := hD.one (by omega)
            have r1 := hr t htm
            have hE := HE.out (i + t) (by omega)
            rw [decide_eq_true ⟨by omega, by omega⟩] at hE
            have hxb : i + t < n2 := by omega
            have HX : Hid (i + (t + 1) = i + t + 1) := (by omega : i + (t + 1) = i + t + 1)
            clear hr hD hH8 HH
            generalize i + t = x at x1 x2 r1 hE hxb HX ⊢
            have y1 : (0 : Int) ≤ x := by omega
            have y2 : (x : Int) < n2 := by omega
            have y3 : decide ((n2 : Int) ≤ (x : Int)) = false := by simp; omega
            have y4 : decide (n2 ≤ x) = false := by simp; omega
            have y6 : ¬ ((n2 : Int) ≤ (x : Int)) := by omega
            have z1 : (0 : Int) ≤ t := by omega
            have z2 : (t : Int) < m := by omega
            have hneq := neq_same ⟨P x, 0, none⟩
            go_wp2
            go_quiet (fail)
            go_wp2
            go_roundg (m - (t + 1))
            case measure => go_light; omega
            case rel => go_light; exact ⟨t + 1, _, by omega, rfl, by go_num, by rw [HX.out]; go_num, rfl⟩
          · obtain rfl : t = m := by omega
            have hkn : ¬ ((t : Int) < t) := by omega
            have hBs0 := below_drewN hBy q1
            have hH9 := hH8.below (below_drewN (Below.refl _ _) q1) (Nat.le_refl _)
            have hD9 := hD.below (below_drewN (Below.refl _ _) q1) (Nat.le_refl _)
            clear hD hH8 hBy
            generalize w8.drewN q1 = w9 at hBs0 hH9 hD9 ⊢
            have x2 := hH9.bef.get (i := 0) (by omega)
            rw [Nat.zero_add] at x2
            have n3 : (0 : Int) < n2 := by omega
            have hadd := run_add_probe (S i) (HZ.out i hlt)
            have hsz := HZ.out i hlt
            have hDa := hD9.below ((Below.refl w9.heap.size w9).alloc (Nat.le_refl _) (.cells #[.pointer (some ⟨P 0, 0, none⟩)] 30)) (Nat.le_refl _)
            go_upto_region 38 with (refine wpList_append_full rfl (.tmp 142) (.tmp 146) 27 rfl 30 (.pointer none) 8 Try.underlying27 Try.info30 rfl ra t _ rfl hm0 hDa (.pointer (some ⟨P 0, 0, none⟩)) rfl w9.heap.size 1 rfl (by rw [World.cell?_alloc_new]; rfl) (by unfold maxLen; omega) (by omega) ?_; intro va wa hba)
            have hBa2 : Below w9.heap.size w9 wa := ((Below.refl _ _).alloc (Nat.le_refl _) _).trans (hba.mono (by simp))
            have hHa := hH9.below hBa2 (Nat.le_refl _)
            have hBs := hBs0.trans (hBa2.mono hBs0.size)
            clear hba hBa2 hBs0 hH9 hD9 hDa x2 HH
            have sa := hHa.sym.get hlt
            have HJ : Hid (Inv S n2 (i + 1) (i + t)) := HJ0
            have HR : Hid (Run S (S i) n2 i (i + t)) := HR0
            clear HJ0 HR0 HE
            by_cases hq : i + t < n2
            · have sq := hHa.sym.get hq
              generalize i + t = x at hq sq HJ HR hqn ⊢
              have y1 : (0 : Int) ≤ x := by omega
              have y2 : (x : Int) < n2 := by omega
              have y3 : decide ((n2 : Int) ≤ (x : Int)) = false := by simp; omega
              have y6 : ¬ ((n2 : Int) ≤ (x : Int)) := by omega
              cases hpe : ((S x).toList == (S i ++ ⟨#[0]⟩ : ByteArray).toList)
              · have c10 := posIn10 ab pa n2 pc P S G (S i ++ ⟨#[0]⟩) wa (by omega) HN.out.1 HN.out.2 hHa.acc hHa.poss HA.out
                clear hHa
                go_wp2_with fail
                refine c10.mono ?_
                rintro e wz ⟨rz, iz, jz, rfl, hRz, _, hBz⟩
                have hz : jz - iz = 0 := probe_none HA.out HR.out hlt (fun _ => by rw [← probe_toList]; exact ne_of_beq_false hpe) hRz
                have HBz := hBs.trans (hBz.mono hBs.size)
                rw [hz]
                clear hRz hz hBz c10
                go_wp2
                go_roundg (n2 - (i + 1))
                case measure => go_light; omega
                case rel => go_light; exact ⟨i + 1, x, by omega, rfl, by go_num, rfl, HBz, HJ⟩

              · clear hHa
                go_wp2
                go_roundg (n2 - (i + 1))
                case measure => go_light; omega
                case rel => go_light; exact ⟨i + 1, x, by omega, rfl, by go_num, rfl, hBs, HJ⟩
            · generalize i + t = x at hq HJ HR hqn ⊢
              have y6 : ((n2 : Int) ≤ (x : Int)) := by omega
              have y3 : decide ((n2 : Int) ≤ (x : Int)) = true := by simp; omega
              have c10 := posIn10 ab pa n2 pc P S G (S i ++ ⟨#[0]⟩) wa (by omega) HN.out.1 HN.out.2 hHa.acc hHa.poss HA.out
              clear hHa
              go_wp2_with fail
              refine c10.mono ?_
              rintro e wz ⟨rz, iz, jz, rfl, hRz, _, hBz⟩
              have hz : jz - iz = 0 := probe_none HA.out HR.out hlt (fun h => absurd h hq) hRz
              have HBz := hBs.trans (hBz.mono hBs.size)
              rw [hz]
              clear hRz hz hBz c10
              go_wp2
              go_roundg (n2 - (i + 1))
              case measure => go_light; omega
              case rel => go_light; exact ⟨i + 1, x, by omega, rfl, by go_num, rfl, HBz, HJ⟩

    · obtain rfl : i = n2 := by omega
      obtain rfl := (inv_end HI.out).symm
      have hkn : ¬ ((i : Int) < i) := by omega
      have hH := HH.below hBr (Nat.le_refl _)
      have c9 := positions9 ab _ pa i pc wr rfl hH.acc
      have hPr := hH.poss.rd
      have hBf := hH.bef
      have hBe := hBd.trans (hBr.mono hBd.size)
      clear hH HH hBr hBd HI
      go_wp2_with fail
      refine c9.mono ?_
      rintro e w9 ⟨rfl, rfl⟩
      clear c9
      go_wp2
      go_loopg [16] i (fun g vi wi => ∃ t q, t ≤ i ∧ g = i - t ∧ vi = .int .i64 (t : Nat) ∧ wi = w9.drewN q)
      case atStart => exact ⟨0, 0, Nat.zero_le _, rfl, rfl, rfl⟩
      case round =>
        obtain ⟨t, q, ht, rfl, rfl, rfl⟩ := hrel
        by_cases hlt : t < i
        · obtain ⟨pb, po, rfl, _, hp⟩ := hPr.one (by omega)
          have p1 := hp t hlt
          have b1 := hBf.get hlt
          rw [Nat.zero_add] at b1
          have t1 : (0 : Int) ≤ t := by omega
          have t2 : (t : Int) < i := by omega
          have hneq := neq_same ⟨P t, 0, none⟩
          clear hp hPr hBf
          go_wp2
          go_quiet (fail)
          go_wp2
          go_roundg (i - (t + 1))
          case measure => go_light; omega
          case rel => go_light; exact ⟨t + 1, _, by omega, rfl, by go_num, rfl⟩
        · obtain rfl : t = i := by omega
          have hkn : ¬ ((t : Int) < t) := by omega
          clear hPr hBf
          go_wp2
          go_ret
          exact ⟨rfl, below_drewN hBe _⟩

end Go.Proofs.Qxb6609301a
