import Derived.Test.Qxb6612369aDecDecide
namespace Go.Proofs.Qxb6612369a
open Go.RowKit

theorem dec_copied {w w1 w2 : World} {n : Nat} {f g : Nat → Value} (h : Dec w w1 n f) (hb2 : Below (w.heap.size + 1) w1 w2) (hrow2 : w2.rowIs (w.heap.size + 1) 55 n g) :
    Hid (Dec w w2 n g) ∧ w2.cell? ⟨w.heap.size, 0, none⟩ = some (.slice none 0 0) ∧ w2.cell? ⟨w.heap.size, 1, none⟩ = some (.bool false) ∧ w2.frozen? ⟨w.heap.size, 0, none⟩ = false ∧ w2.frozen? ⟨w.heap.size, 1, none⟩ = false := by
  have hD2 : Dec w w2 n g := ⟨h.below.trans (hb2.mono (by omega)), h.res.of_block (hb2.block _ (by omega)), hrow2⟩
  exact ⟨hD2, hD2.res.cell (by omega), hD2.res.cell (by omega), hD2.res.frozen 0, hD2.res.frozen 1⟩

set_option maxRecDepth 100000 in
set_option maxHeartbeats 1000000 in
theorem dec_row {cb n m sb : Nat} {Q : Nat → Option Addr} {ta : Option Addr} {tc : Nat} {TA : Nat → Option Addr} {TC : Nat → Nat} {R : Nat → Nat → Int} (w : World) (hC : CompIs w cb n m sb Q ta tc TA TC R)
    (pa : Option Addr) (pc : Nat) (P : Nat → Int) (hn : n ≤ 131072) (hm : m ≤ 65536) (hP : Rd w pa n (fun j => .int .i64 (P j))) (hf : nFail P n = 1) (x : Nat) (r : List Nat)
    (hpick : pickTo P R (fitTo (fun k => allTo (fun i => fs (Q i).isSome (P i) (R k i)) n) m) n = x :: r) :
    Calls Try.prog 23 #[.pointer (some ⟨cb, 0, none⟩), .slice pa n pc] w fun e w' =>
      e = .returned (.agg #[.slice (some ⟨w.heap.size + 1, 0, none⟩) n n, .bool true]) ∧ w'.rowIs (w.heap.size + 1) 55 n (fun i => .int .i64 (R x i)) ∧ Below w.heap.size w w' := by
  have hn0 : 0 < n := by
    rcases Nat.eq_zero_or_pos n with h | h
    · subst h; simp [nFail] at hf
    · exact h
  have hxm : x < m := (mem_fitTo.1 (pickTo_sub P R _ n x (by rw [hpick]; simp))).1
  have hmk := run_make_row' (P := Try.prog) 54 55 (.int .i64 0) 8 Try.underlying54 Try.info55 rfl .i64 .i64 n (by omega) (by omega)
  have hbA : ∀ ob, Below w.heap.size w (w.alloc ob) := fun ob => (Below.refl _ _).alloc (Nat.le_refl _) _
  have c29 := fun ob => failures29 pa n pc P (w.alloc ob) (by omega) (hP.below (hbA ob) (Nat.le_refl _))
  rw [hf] at c29
  have hD := dec_start w n (fun i => R x i)
  have c31 := answer_one _ (hC.below hD.below (Nat.le_refl _)) pa pc P hn hm (hP.below hD.below (Nat.le_refl _)) hf
  rw [hpick] at c31
  simp only [pickV, rowV] at c31
  obtain ⟨b4, o4, ha4, hbl4, hc4⟩ := (hC.row x hxm).one hn0
  rw [ha4] at c31
  have hne := fun w => run_neq_slice_nil_any (P := Try.prog) w 54 55 (some ⟨b4, o4, none⟩) n (TC x) 0 0 Try.underlying54
  have hone : ∀ i, i < n → (Value.int .i64 (R x i)).oneCell' = true := fun i _ => rfl
  clear hpick
  go_enter Try.func23, Try.ntmps23
  go_wp2_with fail
  refine (c29 _).mono ?_
  rintro e w' ⟨rfl, rfl⟩
  go_wp2_with fail
  refine c31.mono ?_
  rintro e w1 ⟨rfl, hb1⟩
  have hD1 := hD.on hb1
  have hrd : Rd w1 (some ⟨b4, o4, none⟩) n (fun i => .int .i64 (R x i)) := by
    have h0 : Rd w (some ⟨b4, o4, none⟩) n (fun i => .int .i64 (R x i)) := ⟨b4, o4, fun _ => rfl, hc4⟩
    exact h0.below hD1.below (Nat.le_refl _)
  clear hmk c29 hbA hP c31 hD hb1 hc4 ha4 hC
  go_wp2_with (refine wpList_copy_rd rfl (.tmp 59) (.tmp 60) 54 54 rfl 55 Try.underlying54 Try.cell55 (some ⟨b4, o4, none⟩) n (TC x) (w.heap.size + 1) rfl rfl 55 _ _ hD1.row hrd hone (w.heap.size + 1) (Nat.le_refl _) ?_; intro w2 hb2 hz2 hrow2; obtain ⟨hD2, r0, r1, z0, z1⟩ := dec_copied hD1 hb2 hrow2)
  obtain ⟨q1, q2, q3, q4⟩ := hD2.out.store (.slice (some ⟨w.heap.size + 1, 0, none⟩) n n) (.bool true)
  exact bodyPost_ret (v := .agg #[.slice (some ⟨w.heap.size + 1, 0, none⟩) n n, .bool true]) (by simp [results, Try.results23, go_sem, q3, q4]) rfl ⟨rfl, q1, q2⟩

set_option maxRecDepth 100000 in
set_option maxHeartbeats 1000000 in
theorem dec_dflt {cb n m sb : Nat} {Q : Nat → Option Addr} {ta : Option Addr} {tc : Nat} {TA : Nat → Option Addr} {TC : Nat → Nat} {R : Nat → Nat → Int} (w : World) (hC : CompIs w cb n m sb Q ta tc TA TC R)
    (pa : Option Addr) (pc : Nat) (P : Nat → Int) (hn : n ≤ 131072) (hm : m ≤ 65536) (hP : Rd w pa n (fun j => .int .i64 (P j))) (f : Nat) (hf : nFail P n = f) (hf0 : f ≠ 0)
    (hans : ∀ wx, Below w.heap.size w wx → Calls Try.prog 31 #[.pointer (some ⟨cb, 0, none⟩), .slice pa n pc] wx fun e w' => e = .returned (.slice none 0 0) ∧ Below wx.heap.size wx w') :
    Calls Try.prog 23 #[.pointer (some ⟨cb, 0, none⟩), .slice pa n pc] w fun e w' =>
      e = .returned (.agg #[.slice (some ⟨w.heap.size + 1, 0, none⟩) n n, .bool (f == 1 && m == 0)]) ∧ w'.rowIs (w.heap.size + 1) 55 n (fun i => .int .i64 (dflt (Q i).isSome (P i))) ∧ Below w.heap.size w w' := by
  have hmk := run_make_row' (P := Try.prog) 54 55 (.int .i64 0) 8 Try.underlying54 Try.info55 rfl .i64 .i64 n (by omega) (by omega)
  have hbA : ∀ ob, Below w.heap.size w (w.alloc ob) := fun ob => (Below.refl _ _).alloc (Nat.le_refl _) _
  have c29 := fun ob => failures29 pa n pc P (w.alloc ob) (by omega) (hP.below (hbA ob) (Nat.le_refl _))
  rw [hf] at c29
  have hD := dec_start w n (fun i => dflt (Q i).isSome (P i))
  have c31 := hans _ hD.below
  have hne := fun w => run_neq_slice_nil_any (P := Try.prog) w 54 55 none 0 0 0 0 Try.underlying54
  have hfz : ((f : Int) == 0) = false := by rw [beq_eq_false_iff_ne]; omega
  have hfle : f ≤ n := by rw [← hf]; exact nFail_le P n
  clear hans hf
  go_enter Try.func23, Try.ntmps23
  go_wp2_with fail
  refine (c29 _).mono ?_
  rintro e w' ⟨rfl, rfl⟩
  go_wp2_with fail
  refine c31.mono ?_
  rintro e w1 ⟨rfl, hb1⟩
  have hD1 := hD.on hb1
  clear hmk c29 hbA c31 hD hb1
  go_wp2
  go_loopg [66] n (fun g i wr => ∃ k : Nat, k ≤ n ∧ g = n - k ∧ i = .int .i64 k ∧ Dec w wr n (uptoI (fun i => dflt (Q i).isSome (P i)) k))
  case atStart => exact ⟨0, Nat.zero_le _, rfl, rfl, hD1⟩
  case round =>
    clear hD1
    obtain ⟨k, hk, rfl, rfl, hD⟩ := hrel
    by_cases hlt : k < n
    · have hC' := hC.below hD.below (Nat.le_refl _)
      obtain ⟨b2, o2, rfl, hbl2, hc2⟩ := (hP.below hD.below (Nat.le_refl _)).one (by omega)
      have e2 := hc2 k hlt
      have s1 := hC'.steps
      have f0 := hC'.cells k hlt 0 (by omega)
      have f1 := hC'.cells k hlt 1 (by omega)
      have f2 := hC'.cells k hlt 2 (by omega)
      have f3 := hC'.cells k hlt 3 (by omega)
      have f4 := hC'.cells k hlt 4 (by omega)
      have f5 := hC'.cells k hlt 5 (by omega)
      have f6 := hC'.cells k hlt 6 (by omega)
      have f7 := hC'.cells k hlt 7 (by omega)
      have f8 := hC'.cells k hlt 8 (by omega)
      simp only [stepC, Nat.add_zero] at f0 f1 f2 f3 f4 f5 f6 f7 f8
      have c32 := dflt32 (Q k) (P k) wr
      unfold stepV at c32
      clear hC hP hC' hc2
      go_wp2_with fail
      refine c32.mono ?_
      rintro e w2 ⟨rfl, hb2⟩
      have hD2 := hD.on hb2
      have c3 : w2.cell? ⟨w.heap.size + 1, k, none⟩ = some (.int .i64 0) := by rw [hD2.row.cell hlt]; simp [uptoI]
      have c4 : w2.frozen? ⟨w.heap.size + 1, k, none⟩ = false := hD2.row.frozen k
      clear hD hb2 c32 f0 f1 f2 f3 f4 f5 f6 f7 f8 e2 s1
      go_wp2
      go_roundg (n - (k + 1))
      case measure => go_light; omega
      case rel => go_light; exact ⟨k + 1, by omega, rfl, by go_num, hD2.step⟩
    · obtain rfl : n = k := by omega
      have hD2 := hD.done
      have hacc := (hC.below hD.below (Nat.le_refl _)).acc
      have r0 : wr.cell? ⟨w.heap.size, 0, none⟩ = some (.slice none 0 0) := hD2.res.cell (by omega)
      have r1 : wr.cell? ⟨w.heap.size, 1, none⟩ = some (.bool false) := hD2.res.cell (by omega)
      have z0 : wr.frozen? ⟨w.heap.size, 0, none⟩ = false := hD2.res.frozen 0
      have z1 : wr.frozen? ⟨w.heap.size, 1, none⟩ = false := hD2.res.frozen 1
      clear hC hP hD
      by_cases h1 : f = 1
      · subst h1
        by_cases hm0 : m = 0
        · subst hm0
          go_wp2
          obtain ⟨q1, q2, q3, q4⟩ := hD2.store (.slice (some ⟨w.heap.size + 1, 0, none⟩) n n) (.bool true)
          exact bodyPost_ret (v := .agg #[.slice (some ⟨w.heap.size + 1, 0, none⟩) n n, .bool true]) (by simp [results, Try.results23, go_sem, q3, q4]) rfl ⟨rfl, q1, q2⟩
        · have hmz : ((m : Int) == 0) = false := by rw [beq_eq_false_iff_ne]; omega
          have HM : Hid ((m == 0) = false) := beq_eq_false_iff_ne.2 hm0
          go_wp2
          obtain ⟨q1, q2, q3, q4⟩ := hD2.store (.slice (some ⟨w.heap.size + 1, 0, none⟩) n n) (.bool false)
          exact bodyPost_ret (v := .agg #[.slice (some ⟨w.heap.size + 1, 0, none⟩) n n, .bool false]) (by simp [results, Try.results23, go_sem, q3, q4]) rfl ⟨by rw [HM.out, Bool.and_false], q1, q2⟩
      · have hf1 : ((f : Int) == 1) = false := by rw [beq_eq_false_iff_ne]; omega
        have HM : Hid ((f == 1) = false) := beq_eq_false_iff_ne.2 h1
        go_wp2
        obtain ⟨q1, q2, q3, q4⟩ := hD2.store (.slice (some ⟨w.heap.size + 1, 0, none⟩) n n) (.bool false)
        exact bodyPost_ret (v := .agg #[.slice (some ⟨w.heap.size + 1, 0, none⟩) n n, .bool false]) (by simp [results, Try.results23, go_sem, q3, q4]) rfl ⟨by rw [HM.out, Bool.false_and], q1, q2⟩

end Go.Proofs.Qxb6612369a
