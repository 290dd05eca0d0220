import Derived.Test.Qxb6609280aLv
namespace Go.Proofs.Qxb6609280a
open Go.RowKit Go.Maps

/-- what the builder's tables read -/
structure Tab (W : World) (p : Nat) (sv fv lv : Value) (σ : St) : Prop where
  c5 : W.cell? ⟨p, 5, none⟩ = some sv
  c6 : W.cell? ⟨p, 6, none⟩ = some fv
  c7 : W.cell? ⟨p, 7, none⟩ = some lv
  rs : Row W sv σ.st
  rf : Row W fv σ.fm
  rl : Row W lv σ.lm

theorem Tab.drewN {W : World} {p : Nat} {sv fv lv : Value} {σ : St} (h : Tab W p sv fv lv σ) (q : Nat) : Tab (W.drewN q) p sv fv lv σ := ⟨h.c5, h.c6, h.c7, h.rs, h.rf, h.rl⟩

theorem Bd.tab {W : World} {p : Nat} {F : Nat → Prop} {σ : St} (h : Bd W p F σ) : ∃ a n c a' n' c' a'' n'' c'', Tab W p (.slice a n c) (.slice a' n' c') (.slice a'' n'' c'') σ := by
  obtain ⟨bs, bf, bl, sv, fv, lv, h⟩ := h
  obtain ⟨a, n, c, rfl⟩ := h.rs.shape
  obtain ⟨a', n', c', rfl⟩ := h.rf.shape
  obtain ⟨a'', n'', c'', rfl⟩ := h.rl.shape
  exact ⟨a, n, c, a', n', c', a'', n'', c'', h.c5, h.c6, h.c7, h.rs, h.rf, h.rl⟩

theorem below_drewN {B : Nat} {a w : World} (h : Below B a w) (q : Nat) : Below B a (w.drewN q) := h.trans ⟨rfl, rfl, rfl, Nat.le_refl _, fun _ _ => rfl⟩

theorem locId_eq (σ : St) (f : Fr) : locId σ f = σ.locs.idxOf f + 1 := Nat.add_comm _ _

set_option maxRecDepth 100000 in
set_option maxHeartbeats 16000000 in
theorem law3 (a : Option Addr) (n cc : Nat) (Fs : Nat → Fr) (cut : Int) (w : World) (h1 : n ≤ maxLen) (hF : RdF w a n Fs) (sF : ∀ i, i < n → (Fs i).Ok) :
    Calls Try.prog 3 #[.slice a n cc, .int .i64 cut] w fun e w' => e = .returned (.bool true) ∧ Below w.heap.size w w' := by
  have cb := bytes6 a n cc Fs cut w h1 hF sF
  have ct := fun x y => frames7 a n cc Fs w x hF y
  unfold maxLen at h1
  have HF : Hid (RdF w a n Fs) := hF
  have HO : Hid (∀ i, i < n → (Fs i).Ok) := sF
  clear hF sF
  go_enter Try.func3, Try.ntmps3
  go_wp2_with fail
  refine cb.mono ?_
  rintro e w' ⟨hb, rfl⟩
  obtain ⟨bb, rfl, hbb⟩ := hb.out
  clear hb cb
  cases bb
  · as_aux_lemma =>
    clear ct
    go_wp2
    go_ret
    exact ⟨rfl, Below.refl _ _⟩
  have HS : Hid (∀ i, i < n → Sml (Fs i)) := hbb rfl
  clear hbb
  by_cases q1 : 1024 < n
  · as_aux_lemma =>
    clear ct
    go_wp2
    go_ret
    exact ⟨rfl, Below.refl _ _⟩
  have ct' := ct (by omega) HS.out
  clear ct
  go_wp2_with fail
  refine ct'.mono ?_
  rintro e w1 ⟨z, q, rfl, hw1⟩
  have hB0 : Below w'.heap.size w' w1 := hw1 ▸ below_drewN (Below.refl _ _) _
  clear ct' hw1
  by_cases q2 : 1048576 < z
  · as_aux_lemma =>
    go_wp2
    go_ret
    exact ⟨rfl, hB0⟩
  by_cases q3 : cut < 0
  · as_aux_lemma =>
    go_wp2
    go_ret
    exact ⟨rfl, hB0⟩
  by_cases q4 : (n : Int) < cut
  · as_aux_lemma =>
    go_wp2
    go_ret
    exact ⟨rfl, hB0⟩
  obtain ⟨c, rfl⟩ : ∃ c : Nat, cut = c := ⟨cut.toNat, by omega⟩
  have q5 : c ≤ n := by omega
  go_wp2_with fail
  refine (new8 w1).mono ?_
  rintro e w2 ⟨pf, rfl, bf2, g2⟩
  go_wp2_with fail
  refine (new8 w2).mono ?_
  rintro e w3 ⟨pp, rfl, bp3, g3⟩
  go_wp2_with fail
  refine (new8 w3).mono ?_
  rintro e w4 ⟨po, rfl, bo4, g4⟩
  have I0 : ∃ Ff Fp Fo, Lv w' w4 pf pp po Ff Fp Fo St.empty St.empty St.empty (.slice none 0 0) [] n Fs := by
    have e0 := hB0.size; have e2 := g2.size; have e3 := g3.size; have e4 := g4.size
    have nb : ∀ {r : Nat}, some r ≠ (none : Option Nat) := by simp
    refine ⟨_, _, _, ?_, bf2.same (Nat.le_trans e3 e4) (fun k hk => ?_), bp3.same e4 (fun k hk => g4.block k hk.2 nb), bo4, fun k hk => by have := hk.1; omega, fun k hk => by have := hk.1; omega, fun k hk => by have := hk.1; omega, fun k a b => by have := a.2; have := b.1; omega, fun k a b => by have := a.2; have := b.1; omega, fun k a b => by have := a.2; have := b.1; omega, Firsts.nil _ _ _, fun k hk => by cases hk⟩
    · exact ((hB0.grown g2 e0 (fun k e => by cases e)).grown g3 (by omega) (fun k e => by cases e)).grown g4 (by omega) (fun k e => by cases e)
    · rw [g4.block k (by have := hk.2; omega) nb, g3.block k hk.2 nb]
  clear bf2 bp3 bo4 g2 g3 g4 hB0
  obtain ⟨Ff0, Fp0, Fo0, I0⟩ := I0
  go_wp2
  go_loopg [8, 9] n (fun g v8 vi wr => ∃ (i : Nat) (v : Value) (Ff Fp Fo : Nat → Prop), i ≤ n ∧ g = n - i ∧ vi = .int .i64 (i : Nat) ∧ v8 = v ∧ Lv w' wr pf pp po Ff Fp Fo (runTo Fs i) (runTo Fs (min i c)) (runTo Fs i) v (runTo Fs i).locs n Fs)
  case atStart => exact ⟨0, _, Ff0, Fp0, Fo0, Nat.zero_le _, rfl, rfl, rfl, by rw [Nat.zero_min]; exact I0⟩
  case round =>
    clear I0
    obtain ⟨i, v, Ff, Fp, Fo, hi, rfl, rfl, hv8, I⟩ := hrel
    have hv9 := hv8.symm
    clear hv8
    subst hv9
    by_cases hlt : i < n
    · obtain ⟨b, o, rfl, hc⟩ := HF.out.one (by omega)
      have HC : Hid (∀ W, Below w'.heap.size w' W → FrAt W b (o + i * 4) (Fs i)) := fun W hb => (hc i hlt).same (hb.block b (hc i hlt).lt)
      have HR : Hid (∀ W, Below w'.heap.size w' W → RdF W (some ⟨b, o, none⟩) n Fs) := fun W hb => HF.out.below (fun k hk => hb.block k hk)
      have hok := HO.out i hlt
      have hsm := HS.out i hlt
      have hfit : Fits (runTo Fs i) 274877906944 := (runTo_fits Fs n (by omega) HS.out HO.out i hi).mono (by omega)
      have hll := runTo_locs Fs i
      clear hc HF
      have i1 : (0 : Int) ≤ i := by omega
      have i2 : (i : Int) < n := by omega
      obtain ⟨x0, x1, x2, x3⟩ := HC.out wr I.bel
      have c10 := toFrame10 (Fs i) wr
      simp only [Fr.val] at c10
      go_wp2_with fail
      refine c10.mono ?_
      rintro e W1 ⟨rfl, g1⟩
      have I1 := I.grow g1
      have c9 := zzloc9 pf Ff (runTo Fs i) (Fs i) W1 I1.bf hok hsm.1 hsm.2 hfit
      simp only [Fr.val] at c9
      clear I g1 c10 x0 x1 x2 x3
      go_wp2_with fail
      refine c9.mono ?_
      rintro e W2 ⟨rfl, L2⟩
      have I2 := I1.full L2
      clear I1 L2 c9
      generalize ext Ff W1 W2 = F2 at I2
      obtain ⟨x0, x1, x2, x3⟩ := HC.out W2 I2.bel
      have c11 := find11 (some ⟨b, o, none⟩) n cc Fs v (runTo Fs i).locs (Fs i) W2 (by omega) (by omega) (HR.out W2 I2.bel) HO.out I2.fi hok
      simp only [Fr.val] at c11
      rw [locId_eq]
      go_wp2_with fail
      refine c11.mono ?_
      rintro e W3 ⟨rfl, g3⟩
      have I3 := I2.grow g3
      clear I2 g3 c11 x0 x1 x2 x3
      generalize hkk : List.idxOf (Fs i) (runTo Fs i).locs = kk
      have hkb : kk ≤ (runTo Fs i).locs.length := by rw [← hkk]; exact List.idxOf_le_length
      go_upto_if 54 with fail
      go_cut [8, 11] from 33 to 91 (fun s8 s11 wx => ∃ (v' : Value) (Fo' : Nat → Prop), s8 = v' ∧ s11 = .int .i64 (kk : Nat) ∧ Lv w' wx pf pp po F2 Fp Fo' (runTo Fs (i + 1)) (runTo Fs (min i c)) (runTo Fs (i + 1)) v' (runTo Fs (i + 1)).locs n Fs)
      case first => as_aux_lemma =>
        by_cases hin : Fs i ∈ (runTo Fs i).locs
        · have hst : runTo Fs (i + 1) = runTo Fs i := locSt_in hin
          have hst2 : locSt (runTo Fs i) (Fs i) = runTo Fs i := locSt_in hin
          rw [hst2] at I3
          rw [findZ_in hin, hkk]
          have hk0 : ¬ ((kk : Int) < 0) := by omega
          go_wp2
          go_meet
          case rel => exact ⟨v, Fo, rfl, rfl, by rw [hst]; exact I3⟩
        · have hst : runTo Fs (i + 1) = locSt (runTo Fs i) (Fs i) := rfl
          have hlo := locSt_locs_out hin
          have hkl : kk = (runTo Fs i).locs.length := by rw [← hkk]; exact List.idxOf_eq_length hin
          subst hkl
          rw [findZ_out hin]
          have hfi := I3.fi
          go_upto_region 20 with (at_builtin; refine wpList_first rfl _ _ rfl v _ n Fs i rfl hfi rfl hlt (by omega) ?_; intro a' c' W4 hF4 hg4 hl4)
          have I4 := I3.more hg4 hl4 hF4
          clear I3 hF4 hg4 hl4 hfi
          obtain ⟨x0, x1, x2, x3⟩ := HC.out W4 I4.bel
          have c10 := toFrame10 (Fs i) W4
          simp only [Fr.val] at c10
          go_wp2_with fail
          refine c10.mono ?_
          rintro e W5 ⟨rfl, g5⟩
          have I5 := I4.grow g5
          have c9 := zzloc9 po Fo (runTo Fs i) (Fs i) W5 I5.bo hok hsm.1 hsm.2 hfit
          simp only [Fr.val] at c9
          clear I4 g5 c10 x0 x1 x2 x3
          go_wp2_with fail
          refine c9.mono ?_
          rintro e W6 ⟨rfl, L6⟩
          have I6 := I5.once L6
          clear I5 L6 c9
          rw [locId_eq, hkk]
          rw [← hlo, ← hst] at I6
          go_wp2
          go_meet
          case rel => exact ⟨_, _, rfl, by go_num, I6⟩
      case rest =>
      obtain ⟨v', Fo', hv8, rfl, I4⟩ := hcut
      have hv9 := hv8.symm
      clear hv8
      subst hv9
      obtain ⟨W4, rfl⟩ : ∃ x : World, x = wc := ⟨_, rfl⟩
      clear I3
      by_cases hic : i < c
      · obtain ⟨x0, x1, x2, x3⟩ := HC.out W4 I4.bel
        have e1 : min i c = i := by omega
        have e2 : min (i + 1) c = i + 1 := by omega
        have e3 : (i : Int) < c := by omega
        rw [e1] at I4
        have c10 := toFrame10 (Fs i) W4
        simp only [Fr.val] at c10
        go_wp2_with fail
        refine c10.mono ?_
        rintro e W5 ⟨rfl, g5⟩
        have I5 := I4.grow g5
        have c9 := zzloc9 pp Fp (runTo Fs i) (Fs i) W5 I5.bp hok hsm.1 hsm.2 hfit
        simp only [Fr.val] at c9
        clear I4 g5 c10 x0 x1 x2 x3
        go_wp2_with fail
        refine c9.mono ?_
        rintro e W6 ⟨rfl, L6⟩
        have I6 := I5.part L6
        clear I5 L6 c9
        rw [locId_eq, hkk]
        go_wp2
        go_roundg (n - (i + 1))
        case measure => go_light; omega
        case rel => go_light; exact ⟨i + 1, _, _, _, _, by omega, rfl, by go_num, rfl, by rw [e2]; exact I6⟩
      · have e1 : min (i + 1) c = min i c := by omega
        have e3 : ¬ ((i : Int) < c) := by omega
        go_wp2
        go_roundg (n - (i + 1))
        case measure => go_light; omega
        case rel => go_light; exact ⟨i + 1, _, _, _, _, by omega, rfl, by go_num, rfl, by rw [e1]; exact I4⟩
    · obtain rfl : i = n := by omega
      have hkn : ¬ ((i : Int) < i) := by omega
      have e1 : min i c = c := by omega
      rw [e1] at I
      have HP : Hid (Pre (runTo Fs c) (runTo Fs i)) := runTo_pre Fs q5
      have hfit := runTo_fits Fs i (by omega) HS.out HO.out i (Nat.le_refl _)
      have f1 : (runTo Fs i).st.length ≤ 1099511627776 := by have := hfit.st; omega
      have f2 : (runTo Fs i).fm.length ≤ 1099511627776 := by have := hfit.fm; omega
      have f3 : (runTo Fs i).lm.length ≤ 1099511627776 := by have := hfit.lm; omega
      obtain ⟨a1, n1, k1, a2, n2, k2, a3, n3, k3, Tf⟩ := I.bf.tab
      obtain ⟨b1, m1, l1, b2, m2, l2, b3, m3, l3, Tp⟩ := I.bp.tab
      obtain ⟨d1, o1, r1, d2, o2, r2, d3, o3, r3, To⟩ := I.bo.tab
      have hbl := I.bel
      clear I hfit HS HO HF
      generalize runTo Fs i = σ at *
      generalize runTo Fs c = τ at *
      have t1 := table13 po _ d1 o1 r1 wr rfl To.c5
      have t2 := table13 pf _ a1 n1 k1 wr rfl Tf.c5
      have t3 := same12 _ _ σ.st wr To.rs Tf.rs f1
      go_wp2_with fail
      refine t1.mono ?_
      rintro e u1 ⟨rfl, rfl⟩
      go_wp2_with fail
      refine t2.mono ?_
      rintro e u2 ⟨rfl, rfl⟩
      go_wp2_with fail
      refine t3.mono ?_
      rintro e u3 ⟨rfl, q, hq⟩
      clear t1 t2 t3
      have Tf1 := Tf.drewN q
      have Tp1 := Tp.drewN q
      have To1 := To.drewN q
      have hbl1 := below_drewN hbl q
      rw [← hq] at Tf1 Tp1 To1 hbl1
      clear Tf Tp To hbl hq
      have t1 := table14 po _ d2 o2 r2 u3 rfl To1.c6
      have t2 := table14 pf _ a2 n2 k2 u3 rfl Tf1.c6
      have t3 := same12 _ _ σ.fm u3 To1.rf Tf1.rf f2
      go_wp2_with fail
      refine t1.mono ?_
      rintro e u4 ⟨rfl, rfl⟩
      go_wp2_with fail
      refine t2.mono ?_
      rintro e u5 ⟨rfl, rfl⟩
      go_wp2_with fail
      refine t3.mono ?_
      rintro e u6 ⟨rfl, q', hq⟩
      clear t1 t2 t3
      have Tf := Tf1.drewN q'
      have Tp := Tp1.drewN q'
      have To := To1.drewN q'
      have hbl := below_drewN hbl1 q'
      rw [← hq] at Tf Tp To hbl
      clear Tf1 Tp1 To1 hbl1 hq
      have t1 := table15 po _ d3 o3 r3 u6 rfl To.c7
      have t2 := table15 pf _ a3 n3 k3 u6 rfl Tf.c7
      have t3 := same12 _ _ σ.lm u6 To.rl Tf.rl f3
      go_wp2_with fail
      refine t1.mono ?_
      rintro e u7 ⟨rfl, rfl⟩
      go_wp2_with fail
      refine t2.mono ?_
      rintro e u8 ⟨rfl, rfl⟩
      go_wp2_with fail
      refine t3.mono ?_
      rintro e u9 ⟨rfl, q'', hq⟩
      clear t1 t2 t3
      have Tf1 := Tf.drewN q''
      have Tp1 := Tp.drewN q''
      have hbl1 := below_drewN hbl q''
      rw [← hq] at Tf1 Tp1 hbl1
      clear Tf Tp To hbl hq
      have t1 := table13 pp _ b1 m1 l1 u9 rfl Tp1.c5
      have t2 := table13 pf _ a1 n1 k1 u9 rfl Tf1.c5
      have t3 := isPrefix16 _ _ τ.st σ.st u9 Tp1.rs Tf1.rs HP.out.st f1
      go_wp2_with fail
      refine t1.mono ?_
      rintro e v1 ⟨rfl, rfl⟩
      go_wp2_with fail
      refine t2.mono ?_
      rintro e v2 ⟨rfl, rfl⟩
      go_wp2_with fail
      refine t3.mono ?_
      rintro e v3 ⟨rfl, q3', hq⟩
      clear t1 t2 t3
      have Tf := Tf1.drewN q3'
      have Tp := Tp1.drewN q3'
      have hbl := below_drewN hbl1 q3'
      rw [← hq] at Tf Tp hbl
      clear Tf1 Tp1 hbl1 hq
      have t1 := table14 pp _ b2 m2 l2 v3 rfl Tp.c6
      have t2 := table14 pf _ a2 n2 k2 v3 rfl Tf.c6
      have t3 := isPrefix16 _ _ τ.fm σ.fm v3 Tp.rf Tf.rf HP.out.fm f2
      go_wp2_with fail
      refine t1.mono ?_
      rintro e v4 ⟨rfl, rfl⟩
      go_wp2_with fail
      refine t2.mono ?_
      rintro e v5 ⟨rfl, rfl⟩
      go_wp2_with fail
      refine t3.mono ?_
      rintro e v6 ⟨rfl, q4', hq⟩
      clear t1 t2 t3
      have Tf1 := Tf.drewN q4'
      have Tp1 := Tp.drewN q4'
      have hbl1 := below_drewN hbl q4'
      rw [← hq] at Tf1 Tp1 hbl1
      clear Tf Tp hbl hq
      have t1 := table15 pp _ b3 m3 l3 v6 rfl Tp1.c7
      have t2 := table15 pf _ a3 n3 k3 v6 rfl Tf1.c7
      have t3 := isPrefix16 _ _ τ.lm σ.lm v6 Tp1.rl Tf1.rl HP.out.lm f3
      go_wp2_with fail
      refine t1.mono ?_
      rintro e v7 ⟨rfl, rfl⟩
      go_wp2_with fail
      refine t2.mono ?_
      rintro e v8 ⟨rfl, rfl⟩
      go_wp2_with fail
      refine t3.mono ?_
      rintro e v9 ⟨rfl, q5', hq⟩
      clear t1 t2 t3
      have hbl := below_drewN hbl1 q5'
      rw [← hq] at hbl
      clear Tf1 Tp1 hbl1 hq
      go_wp2
      go_ret
      exact ⟨rfl, hbl⟩

end Go.Proofs.Qxb6609280a
