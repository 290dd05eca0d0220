import Derived.Test.Qxb6609301aAcc
import Derived.Test.Qxb6609301aOrd
import Derived.Test.Qxb6609301aCopy
import Derived.Deep.CutRange
import Derived.WalkSpells
import Derived.Lib.Builder
namespace Go.Proofs.Qxb6609301a
open Go.RowKit

theorem Try.info9 : (Try.prog.info? 9).map (fun i => (i.zero, i.size, i.bytes)) = some (some (.string ⟨#[]⟩), 1, 16) := by kernel_rfl
theorem Try.cell9 : (Try.prog.info? 9).map (·.size) = some 1 := by kernel_rfl

theorem Try.info58 : (Try.prog.info? 58).map (fun i => i.size) = some 13 := by kernel_rfl
theorem neq_same (a : Addr) (w : World) : (binOp .neq 30 (.pointer (some a)) (.pointer (some a))).run Try.prog w = .ok (.bool false) w := by
  have h := Try.info58
  cases hi : Try.prog.info? 58 with
  | none => rw [hi] at h; simp at h
  | some j => exact Lib.run_neq_ptr_same w a Try.underlying30 hi

/-- how many of the run i .. j lie among the first t -/
def kAt (i j t : Nat) : Nat := min t j - i

theorem run_iff {S : Nat → ByteArray} {c : ByteArray} {n i j : Nat} (hA : Asc S n) (hR : Run S c n i j) {t : Nat} (ht : t < n) : ((S t).toList == c.toList) = decide (i ≤ t ∧ t < j) := by
  by_cases h1 : t < i
  · have h := hR.lt t h1
    have : (S t).toList ≠ c.toList := fun e => by rw [e] at h; exact List.lt_irrefl _ h
    rw [beq_eq_false_iff_ne.2 this]
    exact (decide_eq_false (by omega)).symm
  · by_cases h2 : t < j
    · rw [beq_iff_eq.2 (hR.eq t (by omega) h2)]
      exact (decide_eq_true ⟨by omega, h2⟩).symm
    · have h3 : j < n := by omega
      have h4 := hR.ge j hR.le h3
      have h5 := hR.ne h3
      have h6 := hA j t (by omega) ht
      have : (S t).toList ≠ c.toList := fun e => by
        rw [e] at h6
        exact h5 (List.le_antisymm (List.not_lt.1 h6) (List.not_lt.1 h4))
      rw [beq_eq_false_iff_ne.2 this]
      exact (decide_eq_false (by omega)).symm

set_option maxRecDepth 100000 in
set_option maxHeartbeats 8000000 in
theorem law3 (a1 a2 : Option Addr) (n1 n2 c1 c2 : Nat) (S G : Nat → ByteArray) (sym : ByteArray) (w : World)
    (h1 : n1 ≤ maxLen) (h2 : n2 ≤ maxLen) (h3 : sym.size ≤ maxLen) (hS : Rd w a1 n1 (fun i => .string (S i))) (hG : Rd w a2 n2 (fun i => .string (G i))) (sS : ∀ i, i < n1 → (S i).size ≤ maxLen) (sG : ∀ i, i < n2 → (G i).size ≤ maxLen) :
    Calls Try.prog 3 #[.slice a1 n1 c1, .slice a2 n2 c2, .string sym] w fun e w' => e = .returned (.bool true) ∧ Below w.heap.size w w' := by
  have cb := bytes5 a1 a2 n1 c1 n2 c2 S G sym w h1 h2 h3 hS hG sS sG
  have ct := fun x y z => tooBig6 a1 a2 n1 c1 n2 c2 S G sym w x y z hS hG sS sG
  have co := fun x y => ordered7 a1 a2 n1 c1 n2 c2 S G w x y hS hG
  unfold maxLen at h1 h2 h3
  clear sS sG
  go_enter Try.func3, Try.ntmps3
  go_wp2_with fail
  refine cb.mono ?_
  rintro e w' ⟨hb, rfl⟩
  obtain ⟨bb, rfl⟩ := hb.out
  clear hb cb
  cases bb
  · go_wp2
    go_ret
    exact ⟨rfl, Below.refl _ _⟩
  by_cases q1 : 65536 < n1
  · as_aux_lemma =>
    clear ct co
    go_wp2
    go_ret
    exact ⟨rfl, Below.refl _ _⟩
  by_cases q2 : 65536 < n2
  · as_aux_lemma =>
    clear ct co
    go_wp2
    go_ret
    exact ⟨rfl, Below.refl _ _⟩
  by_cases q3 : 65536 < sym.size
  · as_aux_lemma =>
    clear ct co
    go_wp2
    go_ret
    exact ⟨rfl, Below.refl _ _⟩
  have ct' := ct (by omega) (by omega) (by omega)
  have co' := co (by omega) (by omega)
  clear ct co
  go_wp2_with fail
  refine ct'.mono ?_
  rintro e w2 ⟨hb, rfl⟩
  obtain ⟨bb, rfl⟩ := hb.out
  clear hb ct'
  cases bb
  case true =>
    go_wp2
    go_ret
    exact ⟨rfl, Below.refl _ _⟩
  go_wp2_with fail
  refine co'.mono ?_
  rintro e w1 ⟨hb, q, hw1⟩
  obtain ⟨bb, rfl, hbb⟩ := hb.out
  have hB0 : Below w2.heap.size w2 w1 := hw1 ▸ below_drewN (Below.refl _ _) _
  clear hb co' hw1
  cases bb
  · go_wp2
    go_ret
    exact ⟨rfl, hB0⟩
  obtain ⟨rfl, hA⟩ := hbb rfl
  have HA : Hid (Asc S n2) := hA
  have hS1 := hS.below hB0 (Nat.le_refl _)
  have hG1 := hG.below hB0 (Nat.le_refl _)
  clear hA hbb hS hG
  have hmk := run_make_row' (P := Try.prog) 22 9 (.string ⟨#[]⟩) 16 Try.underlying22 Try.info9 rfl .i64 .i64 n2 (by omega) (by omega)
  go_upto_if 41 with fail
  go_cut [0] from 14 (fun s0 wx => ∃ a c, s0 = .slice a n2 c ∧ Rd wx a n2 (fun i => .string (S i)) ∧ Below w1.heap.size w1 wx)
  case first => as_aux_lemma =>
    cases a1 with
    | none =>
      have hne := fun w => run_neq_slice_nil_any (P := Try.prog) w 22 9 none n2 c1 0 0 Try.underlying22
      go_wp2_with fail
      go_meet
      case rel => exact ⟨_, _, rfl, hS1, Below.refl _ _⟩
    | some x0 =>
      have hrow := World.rowIs_made w1 (.string ⟨#[]⟩) n2 9
      have hrd1 : Rd (w1.alloc (.cells (madeCells #[.string ⟨#[]⟩] n2) 9)) (some x0) n2 (fun i => .string (S i)) := hS1.below ((Below.refl w1.heap.size w1).alloc (Nat.le_refl _) _) (Nat.le_refl _)
      have hone : ∀ i, i < n2 → (Value.string (S i)).oneCell' = true := fun i _ => rfl
      go_wp2_with (refine wpList_copy_rd rfl (.tmp 45) (.tmp 46) 22 22 rfl 9 Try.underlying22 Try.cell9 (some x0) n2 c1 w1.heap.size rfl rfl 9 _ _ hrow hrd1 hone w1.heap.size (Nat.le_refl _) ?_; intro wk hbk hzk hrowk)
      go_meet
      case rel => exact ⟨_, _, rfl, Rd.ofRow hrowk, ((Below.refl _ _).alloc (Nat.le_refl _) _).trans hbk⟩
  case rest =>
  obtain ⟨b1, d0, rfl, hS1', hBx⟩ := hcut
  obtain ⟨w3, rfl⟩ : ∃ x : World, x = wc := ⟨_, rfl⟩
  clear hS1
  have hG3 := hG1.below hBx (Nat.le_refl _)
  have hBa := hB0.trans (hBx.mono hB0.size)
  clear hG1 hBx hB0
  go_upto_if 50 with fail
  go_cut [1] from 14 (fun s0 wx => ∃ a c, s0 = .slice a n2 c ∧ Rd wx a n2 (fun i => .string (G i)) ∧ Below w3.heap.size w3 wx)
  case first => as_aux_lemma =>
    cases a2 with
    | none =>
      have hne := fun w => run_neq_slice_nil_any (P := Try.prog) w 22 9 none n2 c2 0 0 Try.underlying22
      go_wp2_with fail
      go_meet
      case rel => exact ⟨_, _, rfl, hG3, Below.refl _ _⟩
    | some x0 =>
      have hrow := World.rowIs_made w3 (.string ⟨#[]⟩) n2 9
      have hrd1 : Rd (w3.alloc (.cells (madeCells #[.string ⟨#[]⟩] n2) 9)) (some x0) n2 (fun i => .string (G i)) := hG3.below ((Below.refl w3.heap.size w3).alloc (Nat.le_refl _) _) (Nat.le_refl _)
      have hone : ∀ i, i < n2 → (Value.string (G i)).oneCell' = true := fun i _ => rfl
      go_wp2_with (refine wpList_copy_rd rfl (.tmp 54) (.tmp 55) 22 22 rfl 9 Try.underlying22 Try.cell9 (some x0) n2 c2 w3.heap.size rfl rfl 9 _ _ hrow hrd1 hone w3.heap.size (Nat.le_refl _) ?_; intro wk hbk hzk hrowk)
      go_meet
      case rel => exact ⟨_, _, rfl, Rd.ofRow hrowk, ((Below.refl _ _).alloc (Nat.le_refl _) _).trans hbk⟩
  case rest =>
  obtain ⟨b2, d1, rfl, hG3', hB1⟩ := hcut
  obtain ⟨w4, rfl⟩ : ∃ x : World, x = wc := ⟨_, rfl⟩
  clear hG3
  have hS4 := hS1'.below hB1 (Nat.le_refl _)
  have hG4 := hG3'
  have hBb := hBa.trans (hB1.mono hBa.size)
  clear hS1' hG3' hB1 hBa hmk
  by_cases h0 : 0 < n2
  · obtain ⟨x2, o2, e2, _, hg2⟩ := hG4.one (by omega)
    subst e2
    have g0 := hg2 0 h0
    rw [Nat.add_zero] at g0
    have h0' : (0 : Int) < n2 := by omega
    clear hg2
    go_wp2_with fail
    refine (newAccount8 _ b1 (some ⟨x2, o2, none⟩) n2 d0 d1 S G _ w4 (by omega) hS4 hG4).mono ?_
    rintro e w5 ⟨ab, pa, pc, P, rfl, hcell, hcap, hnil, hP, hB5⟩
    have hS5 := hS4.below hB5 (Nat.le_refl _)
    have hBc := hBb.trans (hB5.mono hBb.size)
    have c9 := positions9 ab _ pa n2 pc w5 rfl hcell
    have c10 := posIn10 ab pa n2 pc P S G sym w5 (by omega) hcap hnil hcell hP HA.out
    have hPr := hP.rd
    clear hS4 hG4 hBb hB5 hcell hnil hP
    go_wp2_with fail
    refine c9.mono ?_
    rintro e w6 ⟨rfl, rfl⟩
    go_wp2_with fail
    refine c10.mono ?_
    rintro e w7 ⟨ra, i, j, rfl, hR, hD, hB7⟩
    have hS7 := hS5.below hB7 (Nat.le_refl _)
    have hP7 := hPr.below hB7 (Nat.le_refl _)
    have hBd := hBc.trans (hB7.mono hBc.size)
    have hij := hR.le
    have hjn := hR.bd
    have HI : Hid (∀ t, t < n2 → ((S t).toList == sym.toList) = decide (i ≤ t ∧ t < j)) := fun t ht => run_iff HA.out hR ht
    clear hS5 hPr hBc hR hB7 c9 c10
    obtain ⟨m, hm1, hm2⟩ : ∃ m, m = j - i ∧ i + m = j := ⟨j - i, rfl, by omega⟩
    rw [← hm1] at hD ⊢
    clear hm1
    go_wp2
    go_loopg [12, 13] n2 (fun g vk vi wr => ∃ t q, t ≤ n2 ∧ g = n2 - t ∧ vi = .int .i64 (t : Nat) ∧ vk = .int .i64 (kAt i j t : Nat) ∧ wr = w7.drewN q)
    case atStart => exact ⟨0, 0, Nat.zero_le _, rfl, rfl, by simp [kAt], rfl⟩
    case round =>
      obtain ⟨t, q, ht, rfl, rfl, rfl, rfl⟩ := hrel
      by_cases hlt : t < n2
      · obtain ⟨sb, so, rfl, _, hs⟩ := hS7.one (by omega)
        have s1 := hs t hlt
        have hI := HI.out t hlt
        clear hs hS7
        by_cases hin : i ≤ t ∧ t < j
        · rw [decide_eq_true hin] at hI
          obtain ⟨pb, po, rfl, _, hp⟩ := hP7.one (by omega)
          obtain ⟨rb, ro, rfl, _, hr⟩ := hD.one (by omega)
          have p1 := hp t hlt
          have r1 := hr (t - i) (by omega)
          rw [show i + (t - i) = t by omega] at r1
          have HK : Hid (kAt i j (t + 1) = kAt i j t + 1) := by show _ = _; unfold kAt; omega
          have hkt : kAt i j t = t - i := by unfold kAt; omega
          rw [hkt] at HK ⊢
          have hu : t - i < m := by omega
          generalize t - i = u at r1 HK hu ⊢
          have u1 : (0 : Int) ≤ u := by omega
          have u2 : (u : Int) < m := by omega
          have u3 : decide ((m : Int) ≤ (u : Int)) = false := by simp; omega
          have u4 : decide (m ≤ u) = false := by simp; omega
          have u5 : decide (u < m) = true := by simp; omega
          have u6 : ¬ ((m : Int) ≤ (u : Int)) := by omega
          have t1 : (0 : Int) ≤ t := by omega
          have t2 : (t : Int) < n2 := by omega
          have hneq := neq_same ⟨P t, 0, none⟩
          clear hp hr hP7 hD hkt
          go_wp2
          go_quiet (fail)
          go_wp2
          go_roundg (n2 - (t + 1))
          case measure => go_light; omega
          case rel => go_light; exact ⟨t + 1, _, by omega, rfl, by go_num, by rw [HK.out]; go_num, rfl⟩
        · rw [decide_eq_false hin] at hI
          have HK : Hid (kAt i j (t + 1) = kAt i j t) := by show _ = _; unfold kAt; omega
          clear hP7 hD
          go_wp2
          go_roundg (n2 - (t + 1))
          case measure => go_light; omega
          case rel => go_light; exact ⟨t + 1, q, by omega, rfl, by go_num, by rw [HK.out], rfl⟩
      · obtain rfl : t = n2 := by omega
        have hkn : ¬ ((t : Int) < t) := by omega
        have hkt : kAt i j t = m := by unfold kAt; omega
        rw [hkt]
        clear hS7 hP7 hD hkt
        go_wp2
        go_ret
        exact ⟨by simp, below_drewN hBd _⟩
  · have h0' : ¬ ((0 : Int) < n2) := by omega
    go_wp2_with fail
    refine (newAccount8 _ b1 b2 n2 d0 d1 S G _ w4 (by omega) hS4 hG4).mono ?_
    rintro e w5 ⟨ab, pa, pc, P, rfl, hcell, hcap, hnil, hP, hB5⟩
    have hS5 := hS4.below hB5 (Nat.le_refl _)
    have hBc := hBb.trans (hB5.mono hBb.size)
    have c9 := positions9 ab _ pa n2 pc w5 rfl hcell
    have c10 := posIn10 ab pa n2 pc P S G sym w5 (by omega) hcap hnil hcell hP HA.out
    have hPr := hP.rd
    clear hS4 hG4 hBb hB5 hcell hnil hP
    go_wp2_with fail
    refine c9.mono ?_
    rintro e w6 ⟨rfl, rfl⟩
    go_wp2_with fail
    refine c10.mono ?_
    rintro e w7 ⟨ra, i, j, rfl, hR, hD, hB7⟩
    have hS7 := hS5.below hB7 (Nat.le_refl _)
    have hP7 := hPr.below hB7 (Nat.le_refl _)
    have hBd := hBc.trans (hB7.mono hBc.size)
    have hij := hR.le
    have hjn := hR.bd
    have HI : Hid (∀ t, t < n2 → ((S t).toList == sym.toList) = decide (i ≤ t ∧ t < j)) := fun t ht => run_iff HA.out hR ht
    clear hS5 hPr hBc hR hB7 c9 c10
    obtain ⟨m, hm1, hm2⟩ : ∃ m, m = j - i ∧ i + m = j := ⟨j - i, rfl, by omega⟩
    rw [← hm1] at hD ⊢
    clear hm1
    go_wp2
    go_loopg [12, 13] n2 (fun g vk vi wr => ∃ t q, t ≤ n2 ∧ g = n2 - t ∧ vi = .int .i64 (t : Nat) ∧ vk = .int .i64 (kAt i j t : Nat) ∧ wr = w7.drewN q)
    case atStart => exact ⟨0, 0, Nat.zero_le _, rfl, rfl, by simp [kAt], rfl⟩
    case round =>
      obtain ⟨t, q, ht, rfl, rfl, rfl, rfl⟩ := hrel
      by_cases hlt : t < n2
      · exfalso; omega
      · obtain rfl : t = n2 := by omega
        have hkn : ¬ ((t : Int) < t) := by omega
        have hkt : kAt i j t = m := by unfold kAt; omega
        rw [hkt]
        clear hS7 hP7 hD hkt
        go_wp2
        go_ret
        exact ⟨by simp, below_drewN hBd _⟩

end Go.Proofs.Qxb6609301a
