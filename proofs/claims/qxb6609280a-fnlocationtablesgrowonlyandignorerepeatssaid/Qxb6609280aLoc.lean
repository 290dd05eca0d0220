import Derived.Test.Qxb6609280aFun
namespace Go.Proofs.Qxb6609280a
open Go.RowKit Go.Maps

theorem funSt_strs (σ : St) (f : Fn) : (funSt σ f).strs.length ≤ σ.strs.length + 2 := by
  by_cases h : f ∈ σ.funs
  · rw [funSt_in h]; omega
  · rw [funSt_out h]
    have h1 := strSt_strs (addFun σ f) ⟨f.nm⟩
    have h2 := strSt_strs (strSt (addFun σ f) ⟨f.nm⟩) ⟨f.fl⟩
    have h3 : (addFun σ f).strs = σ.strs := rfl
    rw [h3] at h1
    simp only
    omega
theorem funSt_st (σ : St) (f : Fn) (b1 : f.nm.size ≤ 1048576) (b2 : f.fl.size ≤ 1048576) : (funSt σ f).st.length ≤ σ.st.length + 2097200 := by
  by_cases h : f ∈ σ.funs
  · rw [funSt_in h]; omega
  · rw [funSt_out h]
    have h1 := strSt_st (addFun σ f) ⟨f.nm⟩ b1
    have h2 := strSt_st (strSt (addFun σ f) ⟨f.nm⟩) ⟨f.fl⟩ b2
    have h3 : (addFun σ f).st = σ.st := rfl
    rw [h3] at h1
    simp only
    omega
theorem funSt_funs (σ : St) (f : Fn) : (funSt σ f).funs.length ≤ σ.funs.length + 1 := by
  by_cases h : f ∈ σ.funs
  · rw [funSt_in h]; omega
  · rw [funSt_out h]
    simp only
    rw [strSt_funs, strSt_funs]
    simp [addFun]
theorem funSt_fm (σ : St) (f : Fn) (n1 : σ.strs.length ≤ 549755813888) (n3 : σ.funs.length ≤ 549755813888) : (funSt σ f).fm.length ≤ σ.fm.length + 200 := by
  by_cases h : f ∈ σ.funs
  · rw [funSt_in h]; omega
  · rw [funSt_out h]
    simp only
    have k1 := strSt_strs (addFun σ f) ⟨f.nm⟩
    have k4 := strId_le (addFun σ f) ⟨f.nm⟩
    have k5 := strId_le (strSt (addFun σ f) ⟨f.nm⟩) ⟨f.fl⟩
    have h3 : (addFun σ f).strs = σ.strs := rfl
    rw [h3] at k1 k4
    have h4 := funMsg_len (1 + σ.funs.length) (strId (addFun σ f) ⟨f.nm⟩) (strId (strSt (addFun σ f) ⟨f.nm⟩) ⟨f.fl⟩) (by omega) (by omega) (by omega)
    have h5 := ab_length 5 (funMsg (1 + σ.funs.length) (strId (addFun σ f) ⟨f.nm⟩) (strId (strSt (addFun σ f) ⟨f.nm⟩) ⟨f.fl⟩)) (strSt (strSt (addFun σ f) ⟨f.nm⟩) ⟨f.fl⟩).fm (by decide) (by omega)
    rw [strSt_fm, strSt_fm] at h5
    have h6 : (addFun σ f).fm = σ.fm := rfl
    rw [h6] at h5
    rw [strSt_fm, strSt_fm, h6]
    omega
theorem funSt_locs (σ : St) (f : Fn) : (funSt σ f).locs = σ.locs := by
  by_cases h : f ∈ σ.funs
  · rw [funSt_in h]
  · rw [funSt_out h]
    simp only
    rw [strSt_locs, strSt_locs]; rfl
theorem funSt_lm (σ : St) (f : Fn) : (funSt σ f).lm = σ.lm := by
  by_cases h : f ∈ σ.funs
  · rw [funSt_in h]
  · rw [funSt_out h]
    simp only
    rw [strSt_lm, strSt_lm]; rfl
theorem funId_le (σ : St) (f : Fn) : funId σ f ≤ 1 + σ.funs.length := by
  have : σ.funs.idxOf f ≤ σ.funs.length := List.idxOf_le_length
  unfold funId; omega
theorem funId_pos (σ : St) (f : Fn) : funId σ f ≠ 0 := by unfold funId; omega

theorem locSt_in {σ : St} {f : Fr} (h : f ∈ σ.locs) : locSt σ f = σ := if_pos h
theorem locSt_out {σ : St} {f : Fr} (h : f ∉ σ.locs) : locSt σ f = { funSt (addLoc σ f) ⟨f.fn, f.fl⟩ with lm := ab 4 (locMsg (1 + σ.locs.length) f (lineMsg (funId (addLoc σ f) ⟨f.fn, f.fl⟩) f.ln)) (funSt (addLoc σ f) ⟨f.fn, f.fl⟩).lm } := if_neg h

theorem lineMsg_ne (fid : Nat) (ln : Int) (h : fid ≠ 0) : lineMsg fid ln ≠ [] := au_ne (au_ne' h)
theorem lineMsg_len (fid : Nat) (ln : Int) (h : fid < 18446744073709551616) : (lineMsg fid ln).length ≤ 40 := by
  unfold lineMsg
  have a1 := au_length 1 fid [] (by decide) h
  have a2 := au_length 2 (u64 ln) (au 1 fid []) (by decide) (u64_lt ln)
  rw [List.length_nil] at a1
  omega
theorem ab_ne (f : Nat) (d b : List UInt8) : ab f d b ≠ [] := by
  intro e
  have h2 := congrArg List.length e
  have := Lib.uvarint_pos (f * 8 + 2)
  unfold ab at h2
  rw [List.length_append, List.length_append, List.length_append, List.length_nil] at h2
  omega
theorem locMsg_len (id : Nat) (f : Fr) (line : List UInt8) (h1 : id < 18446744073709551616) (h2 : f.a < 18446744073709551616) (h3 : line.length ≤ 40) : (locMsg id f line).length ≤ 120 := by
  unfold locMsg
  have a1 := au_length 1 id [] (by decide) h1
  have a2 := au_length 2 1 (au 1 id []) (by decide) (by decide)
  have a3 := au_length 3 f.a (au 2 1 (au 1 id [])) (by decide) h2
  have a4 := ab_length 4 line (au 3 f.a (au 2 1 (au 1 id []))) (by decide) (by omega)
  rw [List.length_nil] at a1
  omega

def Fr.cells (f : Fr) : Array Value := #[.int .u64 f.a, .string f.fn, .string f.fl, .int .i64 f.ln]

/-- the state stays within what the walk can bear -/
structure Fits (σ : St) (M : Nat) : Prop where
  strs : σ.strs.length ≤ M
  st : σ.st.length ≤ M
  funs : σ.funs.length ≤ M
  fm : σ.fm.length ≤ M
  locs : σ.locs.length ≤ M
  lm : σ.lm.length ≤ M

set_option maxHeartbeats 8000000 in
set_option maxRecDepth 100000 in
theorem loc23 (p : Nat) (F : Nat → Prop) (σ : St) (f : Fr) (w : World) (hB : Bd w p F σ) (hf : f.Ok) (h1 : f.fn.size ≤ 1048576) (h2 : f.fl.size ≤ 1048576) (hN : Fits σ 274877906944) :
    Calls Try.prog 23 #[.pointer (some ⟨p, 0, none⟩), f.val] w fun e w' => e = .returned (.int .u64 (locId σ f : Nat)) ∧ Left w p F (locSt σ f) w' := by
  obtain ⟨bs, bf, bl, sv, fv, lv, hP⟩ := hB
  obtain ⟨n1, n2, n3, n4, n5, n6⟩ := hN
  have hk31 := key31 hf
  have ha := hf.a
  clear hf
  have hg0 := World.grownBy_alloc w (.cells #[.int .u64 f.a, .string f.fn, .string f.fl, .int .i64 f.ln] 31) none
  have P0 := hP.kp hg0
  have c4 := P0.c4
  have x0 : (w.alloc (.cells #[.int .u64 f.a, .string f.fn, .string f.fl, .int .i64 f.ln] 31)).cell? ⟨w.heap.size, 0, none⟩ = some (.int .u64 f.a) := by rw [World.cell?_alloc_new]; rfl
  have x1 : (w.alloc (.cells #[.int .u64 f.a, .string f.fn, .string f.fl, .int .i64 f.ln] 31)).cell? ⟨w.heap.size, 1, none⟩ = some (.string f.fn) := by rw [World.cell?_alloc_new]; rfl
  have x2 : (w.alloc (.cells #[.int .u64 f.a, .string f.fn, .string f.fl, .int .i64 f.ln] 31)).cell? ⟨w.heap.size, 2, none⟩ = some (.string f.fl) := by rw [World.cell?_alloc_new]; rfl
  have x3 : (w.alloc (.cells #[.int .u64 f.a, .string f.fn, .string f.fl, .int .i64 f.ln] 31)).cell? ⟨w.heap.size, 3, none⟩ = some (.int .i64 f.ln) := by rw [World.cell?_alloc_new]; rfl
  by_cases hin : f ∈ σ.locs
  · have hlk := fun q => (P0.ml.same (w' := (w.alloc (.cells #[.int .u64 f.a, .string f.fn, .string f.fl, .int .i64 f.ln] 31)).drewN q) rfl).hit law31 Try.underlying47 Try.underlying28 (zero28 _) hk31 hin
    have hlk0 := hlk 0
    simp only [Fr.val] at hlk hlk0 ⊢
    have hLf : ∀ q, Left w p F σ ((w.alloc (.cells #[.int .u64 f.a, .string f.fn, .string f.fl, .int .i64 f.ln] 31)).drewN q) := fun q => Left.of (P0.same (Nat.le_refl _) (fun _ _ => rfl)) (fun _ hk => .inl hk) hP.lt ((Kp.alloc F w _).drewN q)
    rw [locSt_in hin]
    clear hP P0 hg0
    go_enter Try.func23, Try.ntmps23
    go_wp2
    go_quiet (fail)
    go_wp2
    go_ret
    exact ⟨rfl, hLf _⟩
  · have hlk := fun q => (P0.ml.same (w' := (w.alloc (.cells #[.int .u64 f.a, .string f.fn, .string f.fl, .int .i64 f.ln] 31)).drewN q) rfl).miss law31 Try.underlying47 Try.underlying28 (zero28 _) hk31 hin
    have hln := fun q => (P0.ml.same (w' := (w.alloc (.cells #[.int .u64 f.a, .string f.fn, .string f.fl, .int .i64 f.ln] 31)).drewN q) rfl).len Try.underlying47 3
    have hlk0 := hlk 0
    simp only [Fr.val] at hlk hlk0 ⊢
    rw [locSt_out hin]
    have hms := P0.ml
    go_enter Try.func23, Try.ntmps23
    go_wp2
    go_quiet (fail)
    go_upto_region 5 with fail
    go_cut [7] from 10 (fun s7 wx => s7 = .int .u64 ((1 + σ.locs.length : Nat) : Int) ∧ Begun w F p (addLoc σ f) (.cells #[.int .u64 f.a, .string f.fn, .string f.fl, .int .i64 f.ln] 31) wx)
    case first => as_aux_lemma =>
      have hU := fun r => (hms.same (w' := (w.alloc (.cells #[.int .u64 f.a, .string f.fn, .string f.fl, .int .i64 f.ln] 31)).drewN r) rfl).put_run law31 Try.underlying47 Try.underlying28 (fun _ _ => Fr.val_inj) (wf_u64 (by omega)) (by unfold maxLen; omega) hk31 hin
      obtain ⟨U, hU⟩ : ∃ U : Nat → World, ∀ r, (Instr.mapUpdate 47 (.map (some bl)) f.val (.int .u64 ((1 + σ.locs.length : Nat) : Int))).run Try.prog ((w.alloc (.cells #[.int .u64 f.a, .string f.fn, .string f.fl, .int .i64 f.ln] 31)).drewN r) = .ok () (U r) ∧ ((w.alloc (.cells #[.int .u64 f.a, .string f.fn, .string f.fl, .int .i64 f.ln] 31)).drewN r).grownBy (U r) (some bl) ∧ MapIs 31 28 .u64 Fr.val 1 (U r) bl (σ.locs ++ [f]) := ⟨fun r => Classical.choose (hU r), fun r => Classical.choose_spec (hU r)⟩
      have hup := fun r => (hU r).1
      simp only [Fr.val, show (((1 + σ.locs.length : Nat) : Int)) = (σ.locs.length : Int) + 1 by omega] at hup
      have hBg : ∀ r, Begun w F p (addLoc σ f) (.cells #[.int .u64 f.a, .string f.fn, .string f.fl, .int .i64 f.ln] 31) (U r) := by
        intro r
        obtain ⟨_, hgr, hm⟩ := hU r
        have Q1 := (P0.same (w' := (w.alloc (.cells #[.int .u64 f.a, .string f.fn, .string f.fl, .int .i64 f.ln] 31)).drewN r) (Nat.le_refl _) (fun _ _ => rfl)).putL hgr hm
        have hnF : ¬ F w.heap.size := fun h => by have := hP.lt _ h; omega
        refine ⟨⟨⟨_, _, _, _, _, _, Q1⟩, ((Kp.alloc F w _).drewN r).and (Kp.grown hgr (fun k e => by cases e; exact .inl hP.fbl)), fun k hk => .inl hk⟩, ⟨?_, hnF, Nat.lt_succ_self _⟩⟩
        rw [hgr.block w.heap.size (by show w.heap.size < (w.alloc _).heap.size; simp) (fun e => hnF (by cases e; exact hP.fbl))]
        exact heap_alloc_new w _
      have hnum : (((1 + σ.locs.length : Nat) : Int)) = (σ.locs.length : Int) + 1 := by omega
      clear hU hms hP P0 hlk hlk0 hln
      go_region
      all_goals (go_wp2_with fail; go_meet; exact ⟨by rw [hnum], hBg _⟩)
    case rest =>
    obtain ⟨rfl, M1, X1⟩ := hcut
    obtain ⟨W1, rfl⟩ : ∃ x : World, x = wc := ⟨_, rfl⟩
    have HF : Hid (∀ k, F k → k < w.heap.size) := hP.lt
    clear hms hP P0 hlk hlk0 hln hg0 c4 x0 x1 x2 x3 hk31
    have y1 : W1.cell? ⟨w.heap.size, 1, none⟩ = some (.string f.fn) := by simp [World.cell?, X1.obj]
    have y2 : W1.cell? ⟨w.heap.size, 2, none⟩ = some (.string f.fl) := by simp [World.cell?, X1.obj]
    have c1 := fun26 p F (addLoc σ f) ⟨f.fn, f.fl⟩ W1 M1.bd h1 h2 (by show σ.strs.length ≤ _; omega) (by show σ.st.length ≤ _; omega) (by show σ.funs.length ≤ _; omega) (by show σ.fm.length ≤ _; omega)
    simp only [fnV] at c1
    go_wp2_with fail
    refine c1.mono ?_
    rintro e W2 ⟨rfl, L2⟩
    have M2 := M1.call L2
    have X2 := X1.call L2
    have k1 := funSt_lm (addLoc σ f) ⟨f.fn, f.fl⟩
    have k4 := funId_le (addLoc σ f) ⟨f.fn, f.fl⟩
    have k5 := funId_pos (addLoc σ f) ⟨f.fn, f.fl⟩
    have k6 : (addLoc σ f).funs = σ.funs := rfl
    have k7 : (addLoc σ f).lm = σ.lm := rfl
    rw [k6] at k4
    rw [k7] at k1
    clear c1 M1 X1 L2 y1 y2 k6 k7
    generalize ext F W1 W2 = G2 at M2 X2
    generalize hσ2 : funSt (addLoc σ f) ⟨f.fn, f.fl⟩ = σ2 at *
    generalize hi2 : funId (addLoc σ f) ⟨f.fn, f.fl⟩ = i2 at *
    have hb2 : w.heap.size + 1 ≤ W2.heap.size := X2.gt
    have T2 := Tmp.nil (w.heap.size + 1) W2 G2
    have c2 := appendUint25 1 i2 (.inl rfl) (by omega) (.slice none 0 0) [] W2 T2.row (by decide)
    have a2 := au_length 1 i2 [] (by decide) (by omega)
    rw [List.length_nil] at a2
    go_wp2_with fail
    refine c2.mono ?_
    rintro e W3 ⟨v3, rfl, A3⟩
    have M3 := M2.app T2 A3 (by omega)
    have X3 := X2.app T2 A3
    have T3 := T2.app A3 M2.bd.lt hb2
    have hb3 : w.heap.size + 1 ≤ W3.heap.size := X3.gt
    clear c2 M2 X2 T2 A3 hb2
    have y3 : W3.cell? ⟨w.heap.size, 3, none⟩ = some (.int .i64 f.ln) := by simp [World.cell?, X3.obj]
    have c3 := appendLine24 2 f.ln (.inr (.inl rfl)) v3 _ W3 T3.row (by omega)
    go_wp2_with fail
    refine c3.mono ?_
    rintro e W4 ⟨v4, rfl, A4⟩
    have M4 := M3.app T3 A4 (by omega)
    have X4 := X3.app T3 A4
    have T4' := T3.app A4 M3.bd.lt hb3
    have T4 : Tmp (w.heap.size + 1) W4 G2 v4 (lineMsg i2 f.ln) := T4'
    clear c3 M3 X3 T3 A4 hb3 y3 T4'
    have hll := lineMsg_len i2 f.ln (by omega)
    obtain ⟨g, cg, rfl, ho, hsrc⟩ := T4.row.src (lineMsg_ne i2 f.ln k5)
    obtain ⟨cur, hcur⟩ := T4.row.obj ho
    have Y4 : Fixd W4.heap.size W4 G2 g (.cells cur 5) := ⟨hcur, (T4.own g ho).1, hsrc.lt⟩
    have Z4 : Fixd W4.heap.size W4 G2 w.heap.size (.cells #[.int .u64 f.a, .string f.fn, .string f.fl, .int .i64 f.ln] 31) := ⟨X4.obj, X4.out, X4.gt⟩
    have hw4 : w.heap.size ≤ W4.heap.size := M4.kp.size
    have HS : Hid (∀ j u, (Lib.byteCells (lineMsg i2 f.ln))[j]? = some u → W4.cell? ((⟨g, 0, none⟩ : Addr).add j) = some u) := hsrc.cell
    have U4 := Tmp.nil W4.heap.size W4 G2
    clear X4 T4 hsrc ho
    generalize hll2 : lineMsg i2 f.ln = line at *
    have d1 := appendUint25 1 (1 + σ.locs.length) (.inl rfl) (by omega) (.slice none 0 0) [] W4 U4.row (by decide)
    have e1 := au_length 1 (1 + σ.locs.length) [] (by decide) (by omega)
    rw [List.length_nil] at e1
    go_wp2_with fail
    refine d1.mono ?_
    rintro e W5 ⟨v5, rfl, A5⟩
    have M5 := M4.app U4 A5 hw4
    have Y5 := Y4.app U4 A5
    have Z5 := Z4.app U4 A5
    have U5 := U4.app A5 M4.bd.lt (Nat.le_refl _)
    have s5 : W4.heap.size ≤ W5.heap.size := A5.grown.size
    clear d1 M4 Z4 U4 A5
    have d2 := appendUint25 2 1 (.inr (.inl rfl)) (by decide) v5 _ W5 U5.row (by omega)
    have e2 := au_length 2 1 (au 1 (1 + σ.locs.length) []) (by decide) (by decide)
    go_wp2_with fail
    refine d2.mono ?_
    rintro e W6 ⟨v6, rfl, A6⟩
    have M6 := M5.app U5 A6 hw4
    have Y6 := Y5.app U5 A6
    have Z6 := Z5.app U5 A6
    have U6 := U5.app A6 M5.bd.lt s5
    have s6 : W4.heap.size ≤ W6.heap.size := Nat.le_trans s5 A6.grown.size
    clear d2 M5 Y5 Z5 U5 A6 s5
    have y0 : W6.cell? ⟨w.heap.size, 0, none⟩ = some (.int .u64 f.a) := by simp [World.cell?, Z6.obj]
    have d3 := appendUint25 3 f.a (.inr (.inr (.inl rfl))) ha v6 _ W6 U6.row (by omega)
    have e3 := au_length 3 f.a (au 2 1 (au 1 (1 + σ.locs.length) [])) (by decide) ha
    go_wp2_with fail
    refine d3.mono ?_
    rintro e W7 ⟨v7, rfl, A7⟩
    have M7 := M6.app U6 A7 hw4
    have Y7 := Y6.app U6 A7
    have U7 := U6.app A7 M6.bd.lt s6
    have s7 : W4.heap.size ≤ W7.heap.size := Nat.le_trans s6 A7.grown.size
    clear d3 M6 Y6 Z6 U6 A7 s6 y0
    have S7 : Src W7 g line := ⟨Y7.gt, fun j u hj => by rw [cell_add, cell_heap (w := W4) (by rw [Y7.obj, hcur]), ← cell_add]; exact HS.out j u hj⟩
    have d4 := appendBytes27 4 (.inr (.inr (.inr (.inl rfl)))) line g cg v7 _ W7 U7.row S7 (fun e => by have := (U7.own g e.symm).2; have := Y7.lt; omega) (by omega)
    go_wp2_with fail
    refine d4.mono ?_
    rintro e W8 ⟨v8, rfl, A8⟩
    have M8 := M7.app U7 A8 hw4
    have U8' := U7.app A8 M7.bd.lt s7
    have U8 : Tmp W4.heap.size W8 G2 v8 (locMsg (1 + σ.locs.length) f line) := U8'
    clear d4 M7 Y7 U7 A8 S7 U8' Y4 hcur HS
    have hml := locMsg_len (1 + σ.locs.length) f line (by omega) ha hll
    obtain ⟨bs8, bf8, bl8, sv8, fv8, lv8, P8⟩ := M8.bd
    obtain ⟨g8, c8, rfl, ho8, hs8⟩ := U8.row.src (ab_ne _ _ _)
    have d5 := appendBytes27 4 (.inr (.inr (.inr (.inl rfl)))) _ g8 c8 lv8 σ2.lm W8 P8.rl hs8 (fun e => (U8.own g8 ho8).1 (P8.ol g8 e.symm)) (by rw [k1]; omega)
    have z7 := P8.c7
    clear U8 hs8 ho8
    go_wp2_with fail
    refine d5.mono ?_
    rintro e W9 ⟨v9, rfl, A9⟩
    obtain ⟨a9, n9, k9, rfl⟩ := A9.row.shape
    obtain ⟨hLf, hz, hc⟩ := finL M8 P8 A9 HF.out
    have hid : locId σ f = 1 + σ.locs.length := by unfold locId; rw [List.idxOf_eq_length hin]
    clear M8 P8 A9 d5 z7
    go_wp2
    go_ret
    subst hll2 hσ2 hi2
    exact ⟨by rw [hid]; congr 2, hLf⟩

theorem Left.box {w : World} {o : Obj} {p : Nat} {F : Nat → Prop} {σ : St} {w' : World} (hF : ∀ k, F k → k < w.heap.size) (h : Left (w.alloc o) p F σ w') : Left w p F σ w' := by
  obtain ⟨⟨bs, bf, bl, sv, fv, lv, hP⟩, hK⟩ := h
  exact Left.of hP (fun k hk => hk.imp id (fun h1 => by have := h1.1; simp at this; omega)) hF ((Kp.alloc F w o).and hK)

set_option maxHeartbeats 8000000 in
set_option maxRecDepth 100000 in
theorem zzloc9 (p : Nat) (F : Nat → Prop) (σ : St) (f : Fr) (w : World) (hB : Bd w p F σ) (hf : f.Ok) (h1 : f.fn.size ≤ 1048576) (h2 : f.fl.size ≤ 1048576) (hN : Fits σ 274877906944) :
    Calls Try.prog 9 #[.pointer (some ⟨p, 0, none⟩), f.val] w fun e w' => e = .returned (.int .u64 (locId σ f : Nat)) ∧ Left w p F (locSt σ f) w' := by
  have hlt := hB.lt
  have hB1 : Bd (w.alloc (.cells #[.int .u64 f.a, .string f.fn, .string f.fl, .int .i64 f.ln] 31)) p F σ := hB.same (by simp) (fun k hk => (World.grownBy_alloc w _ none).block k (hB.lt k hk) (by simp))
  have c := loc23 p F σ f _ hB1 hf h1 h2 hN
  simp only [Fr.val] at c ⊢
  clear hB hB1
  go_enter Try.func9, Try.ntmps9
  go_wp2_with fail
  refine c.mono ?_
  rintro e w1 ⟨rfl, hL⟩
  have hL1 := hL.box hlt
  clear hL c
  go_wp2
  go_ret
  exact ⟨rfl, hL1⟩

end Go.Proofs.Qxb6609280a
