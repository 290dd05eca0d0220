import Derived.Test.Qxb6609280aStr
import Derived.Deep.QuietTactic
import Derived.BigQuiet
import Derived.Deep.RegionWith
import Derived.Deep.RegionHeld
namespace Go.Proofs.Qxb6609280a
open Go.RowKit Go.Maps

/-! ### between a function's calls -/
theorem Kp.drewN {F : Nat → Prop} {w w' : World} (h : Kp F w w') (q : Nat) : Kp F w (w'.drewN q) := h.trans ⟨rfl, rfl, rfl, Nat.le_refl _, fun _ _ _ => rfl⟩ (fun _ hk => .inl hk)

structure Mid (w : World) (F : Nat → Prop) (W : World) (G : Nat → Prop) (p : Nat) (σ : St) : Prop where
  bd : Bd W p G σ
  kp : Kp F w W
  gg : ∀ k, G k → F k ∨ w.heap.size ≤ k

/-- a row of the function's own, from block B on -/
structure Tmp (B : Nat) (W : World) (G : Nat → Prop) (v : Value) (b : List UInt8) : Prop where
  row : Row W v b
  own : ∀ k, v.ownBlock = some k → ¬ G k ∧ B ≤ k

/-- a block that stands, below B -/
structure Fixd (B : Nat) (W : World) (G : Nat → Prop) (g : Nat) (o : Obj) : Prop where
  obj : W.heap[g]? = some o
  out : ¬ G g
  lt : g < B

theorem Bd.lt {W : World} {p : Nat} {G : Nat → Prop} {σ : St} (h : Bd W p G σ) : ∀ k, G k → k < W.heap.size := by
  obtain ⟨_, _, _, _, _, _, h⟩ := h
  exact h.lt

theorem Bd.same {W W' : World} {p : Nat} {G : Nat → Prop} {σ : St} (h : Bd W p G σ) (hs : W.heap.size ≤ W'.heap.size) (hb : ∀ k, G k → W'.heap[k]? = W.heap[k]?) : Bd W' p G σ := by
  obtain ⟨bs, bf, bl, sv, fv, lv, h⟩ := h
  exact ⟨bs, bf, bl, sv, fv, lv, h.same hs hb⟩

section
variable {w W W' : World} {F G : Nat → Prop} {p B g : Nat} {σ σ' : St} {v v' : Value} {b b' : List UInt8} {o : Obj}

theorem Row.lt (h : Row W v b) {k : Nat} (hk : v.ownBlock = some k) : k < W.heap.size := (World.ownsRow.lt h k hk).2

theorem Mid.call (h : Mid w F W G p σ) (hL : Left W p G σ' W') : Mid w F W' (ext G W W') p σ' :=
  ⟨hL.bd, h.kp.trans hL.kp h.gg, fun k hk => hk.elim (h.gg k) (fun h1 => .inr (Nat.le_trans h.kp.size h1.1))⟩

theorem Tmp.call (h : Tmp B W G v b) (hL : Left W p G σ' W') : Tmp B W' (ext G W W') v b :=
  ⟨h.row.same fun k hk => hL.kp.block k (h.row.lt hk) (h.own k hk).1, fun k hk => ⟨fun he => he.elim (h.own k hk).1 (fun h1 => by have := h.row.lt hk; omega), (h.own k hk).2⟩⟩

theorem Fixd.gt (h : Fixd B W G g o) : g < W.heap.size := (Array.getElem?_eq_some_iff.1 h.obj).1

theorem Fixd.call (h : Fixd B W G g o) (hL : Left W p G σ' W') : Fixd B W' (ext G W W') g o :=
  ⟨by rw [hL.kp.block g h.gt h.out]; exact h.obj, fun he => he.elim h.out (fun h1 => by have := h.gt; omega), h.lt⟩

theorem Mid.app (h : Mid w F W G p σ) (hT : Tmp B W G v b) (hA : App W v W' v' b') (hB : w.heap.size ≤ B) : Mid w F W' G p σ :=
  ⟨h.bd.same hA.grown.size (fun k hk => hA.grown.block k (h.bd.lt k hk) (fun e => (hT.own k e.symm).1 hk)), h.kp.trans (Kp.grown (F := fun k => v.ownBlock = some k) hA.grown (fun _ e => .inl e)) (fun k e => .inr (Nat.le_trans hB (hT.own k e).2)), h.gg⟩

theorem Tmp.app (hT : Tmp B W G v b) (hA : App W v W' v' b') (hlt : ∀ k, G k → k < W.heap.size) (hB : B ≤ W.heap.size) : Tmp B W' G v' b' := by
  refine ⟨hA.row, fun k hk => ?_⟩
  rcases hA.loc with e | ⟨j, e, hj⟩
  · rw [e] at hk; exact hT.own k hk
  · rw [hk] at e; cases e
    exact ⟨fun hg => by have := hlt _ hg; omega, by omega⟩

theorem Fixd.app (h : Fixd B W G g o) (hT : Tmp B W G v b) (hA : App W v W' v' b') : Fixd B W' G g o :=
  ⟨by rw [hA.grown.block g h.gt (fun e => by have := (hT.own g e.symm).2; have := h.lt; omega)]; exact h.obj, h.out, h.lt⟩

theorem Tmp.nil (B : Nat) (W : World) (G : Nat → Prop) : Tmp B W G (.slice none 0 0) [] := ⟨row_nil W, fun _ hk => by cases hk⟩
end

/-! ### how the state grows -/
theorem strSt_strs (σ : St) (s : Bs) : (strSt σ s).strs.length ≤ σ.strs.length + 1 := by
  unfold strSt; split <;> simp
theorem strSt_st (σ : St) (s : Bs) (h : s.s.size ≤ 1048576) : (strSt σ s).st.length ≤ σ.st.length + 1048600 := by
  unfold strSt; split
  · omega
  · have := ab_length 6 s.s.data.toList σ.st (by decide) (by rw [bytes_len]; omega)
    rw [bytes_len] at this
    simp only
    omega
theorem strSt_funs (σ : St) (s : Bs) : (strSt σ s).funs = σ.funs := by unfold strSt; split <;> rfl
theorem strSt_locs (σ : St) (s : Bs) : (strSt σ s).locs = σ.locs := by unfold strSt; split <;> rfl
theorem strSt_fm (σ : St) (s : Bs) : (strSt σ s).fm = σ.fm := by unfold strSt; split <;> rfl
theorem strSt_lm (σ : St) (s : Bs) : (strSt σ s).lm = σ.lm := by unfold strSt; split <;> rfl

theorem funSt_in {σ : St} {f : Fn} (h : f ∈ σ.funs) : funSt σ f = σ := if_pos h
theorem funSt_out {σ : St} {f : Fn} (h : f ∉ σ.funs) : funSt σ f = { strSt (strSt (addFun σ f) ⟨f.nm⟩) ⟨f.fl⟩ with fm := ab 5 (funMsg (1 + σ.funs.length) (strId (addFun σ f) ⟨f.nm⟩) (strId (strSt (addFun σ f) ⟨f.nm⟩) ⟨f.fl⟩)) (strSt (strSt (addFun σ f) ⟨f.nm⟩) ⟨f.fl⟩).fm } := if_neg h

theorem strId_le (σ : St) (s : Bs) : strId σ s ≤ σ.strs.length := List.idxOf_le_length

theorem Parts.kp {w w' : World} {p : Nat} {F : Nat → Prop} {σ : St} {bs bf bl : Nat} {sv fv lv : Value} (h : Parts w p F σ bs bf bl sv fv lv) (hg : w.grownBy w' none) : Parts w' p F σ bs bf bl sv fv lv :=
  h.same hg.size (fun k hk => hg.block k (h.lt k hk) (by simp))

theorem finF {w W W' : World} {F G : Nat → Prop} {p : Nat} {σ : St} {bs bf bl : Nat} {sv fv lv v' : Value} {b : List UInt8} (M : Mid w F W G p σ) (P : Parts W p G σ bs bf bl sv fv lv) (A : App W fv W' v' b) (hF : ∀ k, F k → k < w.heap.size) :
    Left w p F { σ with fm := b } (W'.setCell ⟨p, 6, none⟩ v') ∧ W'.frozen? ⟨p, 6, none⟩ = false ∧ W'.cell? ⟨p, 6, none⟩ = some fv := by
  have h6 := (tab_facts (i := 6) P P.of ⟨_, P.rf⟩ A).2.2.2.2.2
  refine ⟨Left.of (P.tabF A) (fun k hk => hk.elim (M.gg k) (fun h => .inr (Nat.le_trans M.kp.size h.1))) hF (M.kp.trans ((Kp.grown A.grown (fun k e => .inl (P.of k e))).and (Kp.setCell _ _ P.fp)) M.gg), by simp [World.frozen?, h6, P.obj], by simp [World.cell?, h6, P.obj, bdCells]⟩

theorem finL {w W W' : World} {F G : Nat → Prop} {p : Nat} {σ : St} {bs bf bl : Nat} {sv fv lv v' : Value} {b : List UInt8} (M : Mid w F W G p σ) (P : Parts W p G σ bs bf bl sv fv lv) (A : App W lv W' v' b) (hF : ∀ k, F k → k < w.heap.size) :
    Left w p F { σ with lm := b } (W'.setCell ⟨p, 7, none⟩ v') ∧ W'.frozen? ⟨p, 7, none⟩ = false ∧ W'.cell? ⟨p, 7, none⟩ = some lv := by
  have h6 := (tab_facts (i := 7) P P.ol ⟨_, P.rl⟩ A).2.2.2.2.2
  refine ⟨Left.of (P.tabL A) (fun k hk => hk.elim (M.gg k) (fun h => .inr (Nat.le_trans M.kp.size h.1))) hF (M.kp.trans ((Kp.grown A.grown (fun k e => .inl (P.ol k e))).and (Kp.setCell _ _ P.fp)) M.gg), by simp [World.frozen?, h6, P.obj], by simp [World.cell?, h6, P.obj, bdCells]⟩

theorem au_ne {f x : Nat} {b : List UInt8} (h : b ≠ []) : au f x b ≠ [] := by
  unfold au; split
  · exact h
  · simp [h]
theorem au_ne' {f x : Nat} (h : x ≠ 0) : au f x [] ≠ [] := by
  rw [au_pos _ h]
  intro e
  have := Lib.uvarint_pos x
  have h2 := congrArg List.length e
  rw [List.length_append, List.length_nil] at h2
  omega
theorem funMsg_ne (id nm fl : Nat) (h : id ≠ 0) : funMsg id nm fl ≠ [] := au_ne (au_ne (au_ne (au_ne' h)))
theorem funMsg_len (id nm fl : Nat) (h1 : id < 18446744073709551616) (h2 : nm < 18446744073709551616) (h3 : fl < 18446744073709551616) : (funMsg id nm fl).length ≤ 80 := by
  unfold funMsg
  have a1 := au_length 1 id [] (by decide) h1
  have a2 := au_length 2 nm (au 1 id []) (by decide) h2
  have a3 := au_length 3 nm (au 2 nm (au 1 id [])) (by decide) h2
  have a4 := au_length 4 fl (au 3 nm (au 2 nm (au 1 id []))) (by decide) h3
  rw [List.length_nil] at a1
  omega

/-- what is known when the function's key is in the map -/
def Begun (w : World) (F : Nat → Prop) (p : Nat) (σ : St) (o : Obj) (wx : World) : Prop := Mid w F wx F p σ ∧ Fixd (w.heap.size + 1) wx F w.heap.size o

set_option maxHeartbeats 8000000 in
set_option maxRecDepth 100000 in
theorem fun26 (p : Nat) (F : Nat → Prop) (σ : St) (f : Fn) (w : World) (hB : Bd w p F σ) (h1 : f.nm.size ≤ 1048576) (h2 : f.fl.size ≤ 1048576) (n1 : σ.strs.length ≤ 549755813888) (n2 : σ.st.length ≤ 549755813888) (n3 : σ.funs.length ≤ 549755813888) (n4 : σ.fm.length ≤ 549755813888) :
    Calls Try.prog 26 #[.pointer (some ⟨p, 0, none⟩), fnV f] w fun e w' => e = .returned (.int .u64 (funId σ f : Nat)) ∧ Left w p F (funSt σ f) w' := by
  obtain ⟨bs, bf, bl, sv, fv, lv, hP⟩ := hB
  have hk55 := key55 (f := f) (by unfold maxLen; omega) (by unfold maxLen; omega)
  have hg0 := World.grownBy_alloc w (.cells #[.string f.nm, .string f.fl] 55) none
  have P0 := hP.kp hg0
  have c3 := P0.c3
  have x0 : (w.alloc (.cells #[.string f.nm, .string f.fl] 55)).cell? ⟨w.heap.size, 0, none⟩ = some (.string f.nm) := by rw [World.cell?_alloc_new]; rfl
  have x1 : (w.alloc (.cells #[.string f.nm, .string f.fl] 55)).cell? ⟨w.heap.size, 1, none⟩ = some (.string f.fl) := by rw [World.cell?_alloc_new]; rfl
  by_cases hin : f ∈ σ.funs
  · have hlk := fun q => (P0.mf.same (w' := (w.alloc (.cells #[.string f.nm, .string f.fl] 55)).drewN q) rfl).hit law55 Try.underlying46 Try.underlying28 (zero28 _) hk55 hin
    have hlk0 := hlk 0
    simp only [fnV] at hlk hlk0 ⊢
    have hLf : ∀ q, Left w p F σ ((w.alloc (.cells #[.string f.nm, .string f.fl] 55)).drewN q) := fun q => Left.of (P0.same (Nat.le_refl _) (fun _ _ => rfl)) (fun _ hk => .inl hk) hP.lt ((Kp.alloc F w _).drewN q)
    rw [funSt_in hin]
    clear hP P0 hg0
    go_enter Try.func26, Try.ntmps26
    go_wp2
    go_quiet (fail)
    go_wp2
    go_ret
    exact ⟨rfl, hLf _⟩
  · have hlk := fun q => (P0.mf.same (w' := (w.alloc (.cells #[.string f.nm, .string f.fl] 55)).drewN q) rfl).miss law55 Try.underlying46 Try.underlying28 (zero28 _) hk55 hin
    have hln := fun q => (P0.mf.same (w' := (w.alloc (.cells #[.string f.nm, .string f.fl] 55)).drewN q) rfl).len Try.underlying46 3
    have hlk0 := hlk 0
    simp only [fnV] at hlk hlk0 ⊢
    rw [funSt_out hin]
    have hms := P0.mf
    go_enter Try.func26, Try.ntmps26
    go_wp2
    go_quiet (fail)
    go_upto_region 5 with fail
    go_cut [7] from 10 (fun s7 wx => s7 = .int .u64 ((1 + σ.funs.length : Nat) : Int) ∧ Begun w F p (addFun σ f) (.cells #[.string f.nm, .string f.fl] 55) wx)
    case first =>
      have hU := fun r => (hms.same (w' := (w.alloc (.cells #[.string f.nm, .string f.fl] 55)).drewN r) rfl).put_run law55 Try.underlying46 Try.underlying28 (fun _ _ => fnV_inj) (wf_u64 (by omega)) (by unfold maxLen; omega) hk55 hin
      obtain ⟨U, hU⟩ : ∃ U : Nat → World, ∀ r, (Instr.mapUpdate 46 (.map (some bf)) (fnV f) (.int .u64 ((1 + σ.funs.length : Nat) : Int))).run Try.prog ((w.alloc (.cells #[.string f.nm, .string f.fl] 55)).drewN r) = .ok () (U r) ∧ ((w.alloc (.cells #[.string f.nm, .string f.fl] 55)).drewN r).grownBy (U r) (some bf) ∧ MapIs 55 28 .u64 fnV 1 (U r) bf (σ.funs ++ [f]) := ⟨fun r => Classical.choose (hU r), fun r => Classical.choose_spec (hU r)⟩
      have hup := fun r => (hU r).1
      simp only [fnV, show (((1 + σ.funs.length : Nat) : Int)) = (σ.funs.length : Int) + 1 by omega] at hup
      have hBg : ∀ r, Begun w F p (addFun σ f) (.cells #[.string f.nm, .string f.fl] 55) (U r) := by
        intro r
        obtain ⟨_, hgr, hm⟩ := hU r
        have Q1 := (P0.same (w' := (w.alloc (.cells #[.string f.nm, .string f.fl] 55)).drewN r) (Nat.le_refl _) (fun _ _ => rfl)).putF hgr hm
        have hnF : ¬ F w.heap.size := fun h => by have := hP.lt _ h; omega
        refine ⟨⟨⟨_, _, _, _, _, _, Q1⟩, ((Kp.alloc F w _).drewN r).and (Kp.grown hgr (fun k e => by cases e; exact .inl hP.fbf)), fun k hk => .inl hk⟩, ⟨?_, hnF, Nat.lt_succ_self _⟩⟩
        rw [hgr.block w.heap.size (by show w.heap.size < (w.alloc _).heap.size; simp) (fun e => hnF (by cases e; exact hP.fbf))]
        exact heap_alloc_new w _
      have hnum : (((1 + σ.funs.length : Nat) : Int)) = (σ.funs.length : Int) + 1 := by omega
      clear hU hms hP P0 hlk hlk0 hln
      go_region
      all_goals (go_wp2_with fail; go_meet; exact ⟨by rw [hnum], hBg _⟩)
    case rest =>
    obtain ⟨rfl, M1, X1⟩ := hcut
    obtain ⟨W1, rfl⟩ : ∃ x : World, x = wc := ⟨_, rfl⟩
    have HF : Hid (∀ k, F k → k < w.heap.size) := hP.lt
    clear hms hP P0 hlk hlk0 hln hg0 c3 x0 x1 hk55
    have y0 : W1.cell? ⟨w.heap.size, 0, none⟩ = some (.string f.nm) := by simp [World.cell?, X1.obj]
    have c1 := str29 p F (addFun σ f) ⟨f.nm⟩ W1 M1.bd h1 (by show σ.strs.length ≤ _; omega) (by show σ.st.length ≤ _; omega)
    go_wp2_with fail
    refine c1.mono ?_
    rintro e W2 ⟨rfl, L2⟩
    have M2 := M1.call L2
    have X2 := X1.call L2
    have k1 := strSt_strs (addFun σ f) ⟨f.nm⟩
    have k2 := strSt_st (addFun σ f) ⟨f.nm⟩ h1
    have k3 := strSt_fm (addFun σ f) ⟨f.nm⟩
    have k4 := strId_le (addFun σ f) ⟨f.nm⟩
    have k5 : (addFun σ f).strs = σ.strs := rfl
    have k6 : (addFun σ f).st = σ.st := rfl
    have k7 : (addFun σ f).fm = σ.fm := rfl
    rw [k5] at k1 k4
    rw [k6] at k2
    rw [k7] at k3
    clear c1 M1 X1 L2 y0 k5 k6 k7
    generalize ext F W1 W2 = G2 at M2 X2
    generalize hσ2 : strSt (addFun σ f) ⟨f.nm⟩ = σ2 at *
    generalize hi2 : strId (addFun σ f) ⟨f.nm⟩ = i2 at *
    have hb2 : w.heap.size + 1 ≤ W2.heap.size := X2.gt
    have T2 := Tmp.nil (w.heap.size + 1) W2 G2
    have c2 := appendUint25 1 (1 + σ.funs.length) (.inl rfl) (by omega) (.slice none 0 0) [] W2 T2.row (by decide)
    have a2 := au_length 1 (1 + σ.funs.length) [] (by decide) (by omega)
    rw [List.length_nil] at a2
    go_wp2_with fail
    refine c2.mono ?_
    rintro e W3 ⟨v3, rfl, A3⟩
    have M3 := M2.app T2 A3 (by omega)
    have X3 := X2.app T2 A3
    have T3 := T2.app A3 M2.bd.lt hb2
    have hb3 : w.heap.size + 1 ≤ W3.heap.size := X3.gt
    clear c2 M2 X2 T2 A3 hb2
    have c3 := appendInt24 2 i2 (.inr (.inl rfl)) (by omega) v3 _ W3 T3.row (by omega)
    have a3 := au_length 2 i2 (au 1 (1 + σ.funs.length) []) (by decide) (by omega)
    go_wp2_with fail
    refine c3.mono ?_
    rintro e W4 ⟨v4, rfl, A4⟩
    have M4 := M3.app T3 A4 (by omega)
    have X4 := X3.app T3 A4
    have T4 := T3.app A4 M3.bd.lt hb3
    have hb4 : w.heap.size + 1 ≤ W4.heap.size := X4.gt
    clear c3 M3 X3 T3 A4 hb3
    have c4 := appendInt24 3 i2 (.inr (.inr (.inl rfl))) (by omega) v4 _ W4 T4.row (by omega)
    have a4 := au_length 3 i2 (au 2 i2 (au 1 (1 + σ.funs.length) [])) (by decide) (by omega)
    go_wp2_with fail
    refine c4.mono ?_
    rintro e W5 ⟨v5, rfl, A5⟩
    have M5 := M4.app T4 A5 (by omega)
    have X5 := X4.app T4 A5
    have T5 := T4.app A5 M4.bd.lt hb4
    clear c4 M4 X4 T4 A5 hb4
    have y1 : W5.cell? ⟨w.heap.size, 1, none⟩ = some (.string f.fl) := by simp [World.cell?, X5.obj]
    have c5 := str29 p G2 σ2 ⟨f.fl⟩ W5 M5.bd h2 (by omega) (by omega)
    go_wp2_with fail
    refine c5.mono ?_
    rintro e W6 ⟨rfl, L6⟩
    have M6 := M5.call L6
    have X6 := X5.call L6
    have T6 := T5.call L6
    have k8 := strSt_fm σ2 ⟨f.fl⟩
    have k9 := strId_le σ2 ⟨f.fl⟩
    rw [k3] at k8
    have hb6 : w.heap.size + 1 ≤ W6.heap.size := X6.gt
    clear c5 M5 X5 T5 L6 y1
    generalize ext G2 W5 W6 = G6 at M6 X6 T6
    generalize hσ6 : strSt σ2 ⟨f.fl⟩ = σ6 at *
    generalize hi6 : strId σ2 ⟨f.fl⟩ = i6 at *
    have c6 := appendInt24 4 i6 (.inr (.inr (.inr (.inl rfl)))) (by omega) v5 _ W6 T6.row (by omega)
    go_wp2_with fail
    refine c6.mono ?_
    rintro e W7 ⟨v7, rfl, A7⟩
    have M7 := M6.app T6 A7 (by omega)
    have T7 := T6.app A7 M6.bd.lt hb6
    clear c6 M6 X6 T6 A7 hb6
    obtain ⟨bs7, bf7, bl7, sv7, fv7, lv7, P7⟩ := M7.bd
    have hne := funMsg_ne (1 + σ.funs.length) i2 i6 (by omega)
    have hml := funMsg_len (1 + σ.funs.length) i2 i6 (by omega) (by omega) (by omega)
    have T8 : Tmp (w.heap.size + 1) W7 G6 v7 (funMsg (1 + σ.funs.length) i2 i6) := T7
    obtain ⟨g, cg, rfl, ho, hsrc⟩ := T8.row.src hne
    have c7 := appendBytes27 5 (.inr (.inr (.inr (.inr (.inl rfl))))) _ g cg fv7 σ6.fm W7 P7.rf hsrc (fun e => (T8.own g ho).1 (P7.of g e.symm)) (by rw [k8]; omega)
    have z6 := P7.c6
    clear T7 T8 hsrc ho hne
    go_wp2_with fail
    refine c7.mono ?_
    rintro e W8 ⟨v8, rfl, A8⟩
    obtain ⟨a8, n8, k8', rfl⟩ := A8.row.shape
    obtain ⟨hLf, hz, hc⟩ := finF M7 P7 A8 HF.out
    have hid : funId σ f = 1 + σ.funs.length := by unfold funId; rw [List.idxOf_eq_length hin]
    clear M7 P7 A8 c7 z6
    go_wp2
    go_ret
    subst hσ6 hi6 hσ2 hi2
    exact ⟨by rw [hid]; congr 2, hLf⟩

end Go.Proofs.Qxb6609280a
