import Derived.Test.Qxb6609202aZZ
import Derived.Test.Qxb6609202aBytes
import Derived.Deep.CutRange
import Derived.Laws.BitsLemmas
import Derived.Deep.QuietTactic
import Derived.BigQuiet
namespace Go.Proofs.Qxb6609202a
open Go.RowKit

theorem Try.cell3 : (Try.prog.info? 3).map (·.size) = some 1 := by kernel_rfl

theorem draws (n : Nat) (h1 : 1 ≤ n) (h2 : n ≤ 65536) : ∃ D : Nat → Nat → Nat × Nat × Nat, ∀ h l, DrawIs n h l (D h l).1 (D h l).2.1 (D h l).2.2 := by
  have hex : ∀ h l, ∃ v : Nat × Nat × Nat, DrawIs n h l v.1 v.2.1 v.2.2 := fun h l => by
    obtain ⟨v, h', l', hd⟩ := draw_ends n h l h1 h2
    exact ⟨(v, h', l'), hd⟩
  exact ⟨fun h l => Classical.choose (hex h l), fun h l => Classical.choose_spec (hex h l)⟩

/-- how many of the first k peers hold something -/
def cntTo (La : Nat → Int) : Nat → Nat
  | 0 => 0
  | k + 1 => if 0 ≤ La k then cntTo La k + 1 else cntTo La k

theorem cntTo_le (La : Nat → Int) (k : Nat) : cntTo La k ≤ k := by
  induction k with
  | zero => simp [cntTo]
  | succ k ih => simp only [cntTo]; split <;> omega

theorem pushTo_cnt (D : Nat → Nat → Nat × Nat × Nat) (La : Nat → Int) (h l k : Nat) : (pushTo D La h l k).1.length = cntTo La k := by
  induction k with
  | zero => simp [pushTo, cntTo]
  | succ k ih =>
    simp only [pushTo, cntTo]
    split
    · simp [ih]
    · exact ih

theorem Rd.cell0 {w : World} {g n j : Nat} {f : Nat → Value} (h : Rd w (some ⟨g, 0, none⟩) n f) (hj : j < n) : w.cell? ⟨g, j, none⟩ = some (f j) := by
  obtain ⟨b, o, h1, h2⟩ := h
  have e := h1 (by omega)
  simp only [Option.some.injEq, Addr.mk.injEq] at e
  obtain ⟨rfl, rfl, _⟩ := e
  have := h2 j hj
  rwa [Nat.zero_add] at this

theorem wrap_small {z : Int} (h1 : 0 ≤ z) (h2 : z ≤ 1048576) : IntKind.i64.wrap z = z := by
  rw [IntKind.wrap_i64]; omega

theorem Rd.nil (w : World) (f : Nat → Value) : Rd w none 0 f := ⟨0, 0, by omega, by omega⟩

set_option maxRecDepth 100000 in
set_option maxHeartbeats 8000000 in
theorem law3 (a0 : Int) (a1 a2 a3 a4 : Option Addr) (n1 n2 n3 n4 c1 c2 c3 c4 : Nat) (La X Y Z : Nat → Int) (s t : Nat) (w : World)
    (h1 : n1 ≤ maxLen) (h2 : n2 ≤ maxLen) (h3 : n3 ≤ maxLen) (h4 : n4 ≤ maxLen) (ht : t < 18446744073709551616)
    (hL : Rd w a1 n1 (fun i => .int .i64 (La i))) (hX : Rd w a2 n2 (fun i => .int .i64 (X i))) (hY : Rd w a3 n3 (fun i => .int .i64 (Y i))) (hZ : Rd w a4 n4 (fun i => .int .i64 (Z i))) :
    Calls Try.prog 3 #[.int .i64 a0, .slice a1 n1 c1, .slice a2 n2 c2, .slice a3 n3 c3, .slice a4 n4 c4, .int .u64 s, .int .u64 t] w fun e w' => e = .returned (.bool true) ∧ Below w.heap.size w w' := by
  have cb := bytes4 a0 a1 a2 a3 a4 n1 n2 n3 n4 c1 c2 c3 c4 s t w h1 h2 h3 h4
  have HT : Hid (t < 18446744073709551616) := ht
  clear ht
  unfold maxLen at h1 h2 h3 h4
  go_enter Try.func3, Try.ntmps3
  go_wp2_with fail
  refine cb.mono ?_
  rintro e w' ⟨hb, rfl⟩
  obtain ⟨bb, rfl⟩ := hb.out
  clear hb cb
  cases bb
  · go_wp2
    go_ret
    exact ⟨rfl, Below.refl _ _⟩
  by_cases q1 : 32768 < n1
  · as_aux_lemma =>
    go_wp2
    go_ret
    exact ⟨rfl, Below.refl _ _⟩
  by_cases q2 : 32768 < n2
  · as_aux_lemma =>
    go_wp2
    go_ret
    exact ⟨rfl, Below.refl _ _⟩
  by_cases q3 : 32768 < n3
  · as_aux_lemma =>
    go_wp2
    go_ret
    exact ⟨rfl, Below.refl _ _⟩
  by_cases q4 : 32768 < n4
  · as_aux_lemma =>
    go_wp2
    go_ret
    exact ⟨rfl, Below.refl _ _⟩
  by_cases q5 : a0 < 2
  · as_aux_lemma =>
    go_wp2
    go_ret
    exact ⟨rfl, Below.refl _ _⟩
  by_cases q6 : (n1 : Int) ≠ a0
  · as_aux_lemma =>
    have q6b : ((n1 : Int) != a0) = true := by simp; omega
    go_wp2
    go_ret
    exact ⟨rfl, Below.refl _ _⟩
  obtain rfl : a0 = (n1 : Int) := by omega
  by_cases q7 : n3 ≠ n2
  · as_aux_lemma =>
    have q7b : ((n3 : Int) != (n2 : Int)) = true := by simp; omega
    go_wp2
    go_ret
    exact ⟨rfl, Below.refl _ _⟩
  obtain rfl : n3 = n2 := by omega
  by_cases q8 : n4 ≠ n3
  · as_aux_lemma =>
    have q8b : ((n4 : Int) != (n3 : Int)) = true := by simp; omega
    go_wp2
    go_ret
    exact ⟨rfl, Below.refl _ _⟩
  obtain rfl : n4 = n3 := by omega
  clear q6 q7 q8
  have hmk1 := run_make_row' (P := Try.prog) 22 3 (.int .i64 0) 8 Try.underlying22 Try.info3 rfl .i64 .i64 n1 (by omega) (by omega)
  have hmk2 := run_make_row' (P := Try.prog) 22 3 (.int .i64 0) 8 Try.underlying22 Try.info3 rfl .i64 .i64 n4 (by omega) (by omega)
  go_upto_if 78 with fail
  go_cut [1] from 30 (fun s0 wx => ∃ a c, s0 = .slice a n1 c ∧ Rd wx a n1 (fun i => .int .i64 (La i)) ∧ Below w'.heap.size w' wx)
  case first => as_aux_lemma =>
    cases a1 with
    | none =>
      have hne := fun w => run_neq_slice_nil_any (P := Try.prog) w 22 3 none n1 c1 0 0 Try.underlying22
      go_wp2_with fail
      go_meet
      case rel => exact ⟨_, _, rfl, hL, Below.refl _ _⟩
    | some x0 =>
      have hrow := World.rowIs_made w' (.int .i64 0) n1 3
      have hrd1 : Rd (w'.alloc (.cells (madeCells #[.int .i64 0] n1) 3)) (some x0) n1 (fun i => .int .i64 (La i)) := hL.below ((Below.refl w'.heap.size w').alloc (Nat.le_refl _) _) (Nat.le_refl _)
      have hone : ∀ i, i < n1 → (Value.int .i64 (La i)).oneCell' = true := fun i _ => rfl
      go_wp2_with (refine wpList_copy_rd rfl (.tmp 82) (.tmp 83) 22 22 rfl 3 Try.underlying22 Try.cell3 (some x0) n1 c1 w'.heap.size rfl rfl 3 _ _ hrow hrd1 hone w'.heap.size (Nat.le_refl _) ?_; intro wk hbk hzk hrowk)
      go_meet
      case rel => exact ⟨_, _, rfl, Rd.ofRow hrowk, ((Below.refl _ _).alloc (Nat.le_refl _) _).trans hbk⟩
  case rest =>
  obtain ⟨b1, d1, rfl, hL', hB1⟩ := hcut
  obtain ⟨w1, rfl⟩ : ∃ x : World, x = wc := ⟨_, rfl⟩
  clear hL
  have hX1 := hX.below hB1 (Nat.le_refl _)
  have hY1 := hY.below hB1 (Nat.le_refl _)
  have hZ1 := hZ.below hB1 (Nat.le_refl _)
  have hBa := hB1
  clear hX hY hZ hB1
  go_upto_if 87 with fail
  go_cut [2] from 30 (fun s0 wx => ∃ a c, s0 = .slice a n4 c ∧ Rd wx a n4 (fun i => .int .i64 (X i)) ∧ Below w1.heap.size w1 wx)
  case first => as_aux_lemma =>
    cases a2 with
    | none =>
      have hne := fun w => run_neq_slice_nil_any (P := Try.prog) w 22 3 none n4 c2 0 0 Try.underlying22
      go_wp2_with fail
      go_meet
      case rel => exact ⟨_, _, rfl, hX1, Below.refl _ _⟩
    | some x0 =>
      have hrow := World.rowIs_made w1 (.int .i64 0) n4 3
      have hrd1 : Rd (w1.alloc (.cells (madeCells #[.int .i64 0] n4) 3)) (some x0) n4 (fun i => .int .i64 (X i)) := hX1.below ((Below.refl w1.heap.size w1).alloc (Nat.le_refl _) _) (Nat.le_refl _)
      have hone : ∀ i, i < n4 → (Value.int .i64 (X i)).oneCell' = true := fun i _ => rfl
      go_wp2_with (refine wpList_copy_rd rfl (.tmp 91) (.tmp 92) 22 22 rfl 3 Try.underlying22 Try.cell3 (some x0) n4 c2 w1.heap.size rfl rfl 3 _ _ hrow hrd1 hone w1.heap.size (Nat.le_refl _) ?_; intro wk hbk hzk hrowk)
      go_meet
      case rel => exact ⟨_, _, rfl, Rd.ofRow hrowk, ((Below.refl _ _).alloc (Nat.le_refl _) _).trans hbk⟩
  case rest =>
  obtain ⟨b2, d2, rfl, hX1', hB2⟩ := hcut
  obtain ⟨w2, rfl⟩ : ∃ x : World, x = wc := ⟨_, rfl⟩
  clear hX1
  have hL2 := hL'.below hB2 (Nat.le_refl _)
  have hY2 := hY1.below hB2 (Nat.le_refl _)
  have hZ2 := hZ1.below hB2 (Nat.le_refl _)
  have hBb := hBa.trans (hB2.mono hBa.size)
  clear hL' hY1 hZ1 hB2 hBa
  go_upto_if 96 with fail
  go_cut [3] from 30 (fun s0 wx => ∃ a c, s0 = .slice a n4 c ∧ Rd wx a n4 (fun i => .int .i64 (Y i)) ∧ Below w2.heap.size w2 wx)
  case first => as_aux_lemma =>
    cases a3 with
    | none =>
      have hne := fun w => run_neq_slice_nil_any (P := Try.prog) w 22 3 none n4 c3 0 0 Try.underlying22
      go_wp2_with fail
      go_meet
      case rel => exact ⟨_, _, rfl, hY2, Below.refl _ _⟩
    | some x0 =>
      have hrow := World.rowIs_made w2 (.int .i64 0) n4 3
      have hrd1 : Rd (w2.alloc (.cells (madeCells #[.int .i64 0] n4) 3)) (some x0) n4 (fun i => .int .i64 (Y i)) := hY2.below ((Below.refl w2.heap.size w2).alloc (Nat.le_refl _) _) (Nat.le_refl _)
      have hone : ∀ i, i < n4 → (Value.int .i64 (Y i)).oneCell' = true := fun i _ => rfl
      go_wp2_with (refine wpList_copy_rd rfl (.tmp 100) (.tmp 101) 22 22 rfl 3 Try.underlying22 Try.cell3 (some x0) n4 c3 w2.heap.size rfl rfl 3 _ _ hrow hrd1 hone w2.heap.size (Nat.le_refl _) ?_; intro wk hbk hzk hrowk)
      go_meet
      case rel => exact ⟨_, _, rfl, Rd.ofRow hrowk, ((Below.refl _ _).alloc (Nat.le_refl _) _).trans hbk⟩
  case rest =>
  obtain ⟨b3, d3, rfl, hY2', hB3⟩ := hcut
  obtain ⟨w3, rfl⟩ : ∃ x : World, x = wc := ⟨_, rfl⟩
  clear hY2
  have hL3 := hL2.below hB3 (Nat.le_refl _)
  have hX3 := hX1'.below hB3 (Nat.le_refl _)
  have hZ3 := hZ2.below hB3 (Nat.le_refl _)
  have hBc := hBb.trans (hB3.mono hBb.size)
  clear hL2 hX1' hZ2 hB3 hBb
  go_upto_if 105 with fail
  go_cut [4] from 30 (fun s0 wx => ∃ a c, s0 = .slice a n4 c ∧ Rd wx a n4 (fun i => .int .i64 (Z i)) ∧ Below w3.heap.size w3 wx)
  case first => as_aux_lemma =>
    cases a4 with
    | none =>
      have hne := fun w => run_neq_slice_nil_any (P := Try.prog) w 22 3 none n4 c4 0 0 Try.underlying22
      go_wp2_with fail
      go_meet
      case rel => exact ⟨_, _, rfl, hZ3, Below.refl _ _⟩
    | some x0 =>
      have hrow := World.rowIs_made w3 (.int .i64 0) n4 3
      have hrd1 : Rd (w3.alloc (.cells (madeCells #[.int .i64 0] n4) 3)) (some x0) n4 (fun i => .int .i64 (Z i)) := hZ3.below ((Below.refl w3.heap.size w3).alloc (Nat.le_refl _) _) (Nat.le_refl _)
      have hone : ∀ i, i < n4 → (Value.int .i64 (Z i)).oneCell' = true := fun i _ => rfl
      go_wp2_with (refine wpList_copy_rd rfl (.tmp 109) (.tmp 110) 22 22 rfl 3 Try.underlying22 Try.cell3 (some x0) n4 c4 w3.heap.size rfl rfl 3 _ _ hrow hrd1 hone w3.heap.size (Nat.le_refl _) ?_; intro wk hbk hzk hrowk)
      go_meet
      case rel => exact ⟨_, _, rfl, Rd.ofRow hrowk, ((Below.refl _ _).alloc (Nat.le_refl _) _).trans hbk⟩
  case rest =>
  obtain ⟨b4, d4, rfl, hZ3', hB4⟩ := hcut
  obtain ⟨w4, rfl⟩ : ∃ x : World, x = wc := ⟨_, rfl⟩
  clear hZ3
  have hL4 := hL3.below hB4 (Nat.le_refl _)
  have hX4 := hX3.below hB4 (Nat.le_refl _)
  have hY4 := hY2'.below hB4 (Nat.le_refl _)
  have hZ4 := hZ3'
  have hBd := hBc.trans (hB4.mono hBc.size)
  clear hL3 hX3 hY2' hZ3' hB4 hBc hmk1 hmk2
  go_wp2
  go_loop [19, 20] (fun ct i => ∃ k : Nat, k ≤ n1 ∧ i = .int .i64 k ∧ ct = .int .i64 (cntTo La k : Nat)) (fun _ i => n1 - (intOf i).toNat)
  case atStart => exact ⟨0, Nat.zero_le _, rfl, rfl⟩
  case round =>
    obtain ⟨k, hk, rfl, rfl⟩ := hrel
    have hcl := cntTo_le La k
    by_cases hlt : k < n1
    · obtain ⟨x1, o1, rfl, _, hc1⟩ := hL4.one (by omega)
      have e1 := hc1 k hlt
      have HS : Hid (cntTo La (k + 1) = if 0 ≤ La k then cntTo La k + 1 else cntTo La k) := rfl
      clear hc1 hL4 hX4 hY4 hZ4
      by_cases hc : 0 ≤ La k
      · go_wp2
        go_round
        case rel => exact ⟨k + 1, by omega, by go_num, by rw [HS.out, if_pos hc]; go_num⟩
        case measure => simp [intOf]; omega
      · go_wp2
        go_round
        case rel => exact ⟨k + 1, by omega, by go_num, by rw [HS.out, if_neg hc]⟩
        case measure => simp [intOf]; omega
    · obtain rfl : k = n1 := by omega
      have hkn : ¬ ((k : Int) < k) := by omega
      have hm1 : 1 ≤ k - 1 := by omega
      obtain ⟨n, HN⟩ : ∃ n, Hid (k = n + 1) := ⟨k - 1, by show _ = _; omega⟩
      obtain ⟨D, hD⟩ := draws n (by have := HN.out; omega) (by have := HN.out; omega)
      have hn1 : 1 ≤ n := by have := HN.out; omega
      have hn2 : n ≤ 32768 := by have := HN.out; omega
      have hpl : ∀ h l, (pushTo D La h l k).1.length = cntTo La k := fun h l => pushTo_cnt D La h l k
      clear hm1
      go_wp2_with fail
      refine (newRand6 s t w4).mono ?_
      rintro e w5 ⟨rfl, hz5, hr5, hp5, hB5⟩
      have hL5 := hL4.below hB5 (Nat.le_refl _)
      have hX5 := hX4.below hB5 (Nat.le_refl _)
      have hY5 := hY4.below hB5 (Nat.le_refl _)
      have hZ5 := hZ4.below hB5 (Nat.le_refl _)
      have p5 := zzpush5 (w4.heap.size + 1) w4.heap.size s t n b1 d1 k La D b2 b3 b4 n4 d2 d3 d4 X Y Z w5 HN.out hn1 hn2 (by omega) HT.out hD hr5 hp5 hL5 hX5 hY5 hZ5
      clear hr5 hp5 hL5 hX5 hY5 hZ5
      go_wp2_with fail
      refine p5.mono ?_
      rintro e w6 ⟨g, T, hT, rfl, rP, rC, rN, hK6⟩
      have hB6 : Below w4.heap.size w4 w6 := hB5.trans (hK6.below (by omega) (Nat.le_refl _))
      have hL6 := hL4.below hB6 (Nat.le_refl _)
      have hX6 := hX4.below hB6 (Nat.le_refl _)
      have hY6 := hY4.below hB6 (Nat.le_refl _)
      have hZ6 := hZ4.below hB6 (Nat.le_refl _)
      have hBe := hBd.trans (hB6.mono hBd.size)
      clear p5 hK6 hB5 hz5 hL4 hX4 hY4 hZ4 hBd hB6
      rw [hpl] at hT
      have HT1 : Hid (T = n4 + cntTo La k) := hT
      clear hT
      go_wp2_with fail
      refine (newRand6 s t w6).mono ?_
      rintro e w7 ⟨rfl, hz7, hr7, hp7, hB7⟩
      have hL7 := hL6.below hB7 (Nat.le_refl _)
      have p7 := zzpush5 (w6.heap.size + 1) w6.heap.size s t n b1 d1 k La D none none none 0 0 0 0 X Y Z w7 HN.out hn1 hn2 (by omega) HT.out hD hr7 hp7 hL7 (Rd.nil _ _) (Rd.nil _ _) (Rd.nil _ _)
      clear hr7 hp7 hL7 hL6
      go_wp2_with fail
      refine p7.mono ?_
      rintro e w8 ⟨g', T', hT', rfl, rP', rC', rN', hK8⟩
      have hB8 : Below w6.heap.size w6 w8 := hB7.trans (hK8.below (by omega) (Nat.le_refl _))
      have hX8 := hX6.below hB8 (Nat.le_refl _)
      have hY8 := hY6.below hB8 (Nat.le_refl _)
      have hZ8 := hZ6.below hB8 (Nat.le_refl _)
      have sP := (Rd.ofRow rP).below hB8 (Nat.le_refl _)
      have sC := (Rd.ofRow rC).below hB8 (Nat.le_refl _)
      have sN := (Rd.ofRow rN).below hB8 (Nat.le_refl _)
      have sP' := Rd.ofRow rP'
      have sC' := Rd.ofRow rC'
      have sN' := Rd.ofRow rN'
      have hBf := hBe.trans (hB8.mono hBe.size)
      rw [hpl, Nat.zero_add] at hT'
      have HT2 : Hid (T' = cntTo La k) := hT'
      clear p7 hK8 hB7 hz7 hX6 hY6 hZ6 hBe hB8 rP rC rN rP' rC' rN' hT' hpl hD
      generalize (pushTo D La s t k).1 = ps at sP sC sN sP' sC' sN'
      generalize hcc : cntTo La k = cc at HT1 HT2 hcl
      clear hcc
      obtain rfl := HT2.out
      have hT1 : T ≤ n4 + T' := by have := HT1.out; omega
      have hT2 : n4 + T' ≤ T := by have := HT1.out; omega
      go_wp2
      go_loopg [28] n4 (fun g i wr => ∃ j : Nat, j ≤ n4 ∧ g = n4 - j ∧ i = .int .i64 j ∧ Below w8.heap.size w8 wr)
      case atStart => exact ⟨0, Nat.zero_le _, rfl, rfl, Below.refl _ _⟩
      case round =>
        obtain ⟨j, hj, rfl, rfl, hbr⟩ := hrel
        by_cases hlt2 : j < n4
        · obtain ⟨x2, o2, rfl, _, f2⟩ := (hX8.below hbr (Nat.le_refl _)).one (by omega)
          obtain ⟨x3, o3, rfl, _, f3⟩ := (hY8.below hbr (Nat.le_refl _)).one (by omega)
          obtain ⟨x4, o4, rfl, _, f4⟩ := (hZ8.below hbr (Nat.le_refl _)).one (by omega)
          have f2 := f2 j hlt2
          have f3 := f3 j hlt2
          have f4 := f4 j hlt2
          have u2 : wr.cell? ⟨g, j, none⟩ = some (.int .i64 (X j)) := by rw [(Rd.cell0 (sP.below hbr (Nat.le_refl _)) (by omega) : wr.cell? ⟨g, j, none⟩ = _), colP, if_pos hlt2]
          have u3 : wr.cell? ⟨g + 1, j, none⟩ = some (.int .i64 (Y j)) := by rw [(Rd.cell0 (sC.below hbr (Nat.le_refl _)) (by omega) : wr.cell? ⟨g + 1, j, none⟩ = _), colC, if_pos hlt2]
          have u4 : wr.cell? ⟨g + 2, j, none⟩ = some (.int .i64 (Z j)) := by rw [(Rd.cell0 (sN.below hbr (Nat.le_refl _)) (by omega) : wr.cell? ⟨g + 2, j, none⟩ = _), colN, if_pos hlt2]
          have i0 : (0 : Int) ≤ j := by omega
          have i1 : (j : Int) < n4 := by omega
          have i2 : (j : Int) < T := by omega
          clear sP sC sN sP' sC' sN' hX8 hY8 hZ8
          go_wp2
          go_quiet (fail)
          go_wp2
          go_roundg (n4 - (j + 1))
          case measure => go_light; omega
          case rel => go_light; exact ⟨j + 1, by omega, rfl, by go_num, below_drewN hbr _⟩
        · obtain rfl : j = n4 := by omega
          have hkn2 : ¬ ((j : Int) < j) := by omega
          have hBg := hBf.trans (hbr.mono hBf.size)
          have tP := sP.below hbr (Nat.le_refl _)
          have tC := sC.below hbr (Nat.le_refl _)
          have tN := sN.below hbr (Nat.le_refl _)
          have tP' := sP'.below hbr (Nat.le_refl _)
          have tC' := sC'.below hbr (Nat.le_refl _)
          have tN' := sN'.below hbr (Nat.le_refl _)
          obtain ⟨w9, rfl⟩ : ∃ x : World, x = wr := ⟨_, rfl⟩
          clear sP sC sN sP' sC' sN' hX8 hY8 hZ8 hBf hbr
          go_wp2
          go_loopg [29] T' (fun g i wr => ∃ q : Nat, q ≤ T' ∧ g = T' - q ∧ i = .int .i64 q ∧ Below w9.heap.size w9 wr)
          case atStart => exact ⟨0, Nat.zero_le _, rfl, rfl, Below.refl _ _⟩
          case round =>
            obtain ⟨q, hq, rfl, rfl, hbr⟩ := hrel
            by_cases hlt3 : q < T'
            · have u2 : wr.cell? ⟨g, j + q, none⟩ = some (.int .i64 ((ps.getD q (0, 0)).1 : Nat)) := by rw [(Rd.cell0 (tP.below hbr (Nat.le_refl _)) (by omega) : wr.cell? ⟨g, j + q, none⟩ = _), colP, if_neg (by omega), Nat.add_sub_cancel_left]
              have u3 : wr.cell? ⟨g + 1, j + q, none⟩ = some (.int .i64 (ps.getD q (0, 0)).2) := by rw [(Rd.cell0 (tC.below hbr (Nat.le_refl _)) (by omega) : wr.cell? ⟨g + 1, j + q, none⟩ = _), colC, if_neg (by omega), Nat.add_sub_cancel_left]
              have u4 : wr.cell? ⟨g + 2, j + q, none⟩ = some (.int .i64 (-1)) := by rw [(Rd.cell0 (tN.below hbr (Nat.le_refl _)) (by omega) : wr.cell? ⟨g + 2, j + q, none⟩ = _), colN, if_neg (by omega)]
              have v2 : wr.cell? ⟨g', q, none⟩ = some (.int .i64 ((ps.getD q (0, 0)).1 : Nat)) := by rw [(Rd.cell0 (tP'.below hbr (Nat.le_refl _)) (by omega) : wr.cell? ⟨g', q, none⟩ = _), colP, if_neg (by omega), Nat.sub_zero]
              have v3 : wr.cell? ⟨g' + 1, q, none⟩ = some (.int .i64 (ps.getD q (0, 0)).2) := by rw [(Rd.cell0 (tC'.below hbr (Nat.le_refl _)) (by omega) : wr.cell? ⟨g' + 1, q, none⟩ = _), colC, if_neg (by omega), Nat.sub_zero]
              have v4 : wr.cell? ⟨g' + 2, q, none⟩ = some (.int .i64 (-1)) := by rw [(Rd.cell0 (tN'.below hbr (Nat.le_refl _)) (by omega) : wr.cell? ⟨g' + 2, q, none⟩ = _), colN, if_neg (by omega)]
              generalize ((ps.getD q (0, 0)).1 : Int) = V1 at u2 v2
              generalize (ps.getD q (0, 0)).2 = V2 at u3 v3
              have i0 : (0 : Int) ≤ q := by omega
              have i1 : (q : Int) < T' := by omega
              have i2 : (j : Int) + q < T := by omega
              have i3 : (0 : Int) ≤ (j : Int) + q := by omega
              have i4 : IntKind.i64.wrap ((j : Int) + q) = (j : Int) + q := wrap_small (by omega) (by omega)
              have i5 : ((j : Int) + q).toNat = j + q := by omega
              clear tP tC tN tP' tC' tN'
              go_wp2
              go_quiet (fail)
              go_wp2
              go_roundg (T' - (q + 1))
              case measure => go_light; omega
              case rel => go_light; exact ⟨q + 1, by omega, rfl, by go_num, below_drewN hbr _⟩
            · obtain rfl : q = T' := by omega
              have hkn3 : ¬ ((q : Int) < q) := by omega
              clear tP tC tN tP' tC' tN'
              go_wp2
              go_ret
              exact ⟨rfl, hBg.trans (hbr.mono hBg.size)⟩

end Go.Proofs.Qxb6609202a
