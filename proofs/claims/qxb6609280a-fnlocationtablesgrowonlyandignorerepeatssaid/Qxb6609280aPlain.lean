import Derived.Test.Qxb6609280aFind
namespace Go.Proofs.Qxb6609280a
open Go.RowKit Go.Maps

/-! ### the plain run -/
noncomputable def runTo (Fs : Nat → Fr) : Nat → St
  | 0 => St.empty
  | k + 1 => locSt (runTo Fs k) (Fs k)

theorem strSt_pre (σ : St) (s : Bs) : σ.st <+: (strSt σ s).st := by
  unfold strSt; split
  · exact List.prefix_refl _
  · unfold ab; simp only [List.append_assoc]; exact List.prefix_append _ _

theorem funSt_st_pre (σ : St) (f : Fn) : σ.st <+: (funSt σ f).st := by
  by_cases h : f ∈ σ.funs
  · rw [funSt_in h]; exact List.prefix_refl _
  · rw [funSt_out h]
    exact ((strSt_pre (addFun σ f) ⟨f.nm⟩).trans (strSt_pre _ ⟨f.fl⟩))

theorem funSt_fm_pre (σ : St) (f : Fn) : σ.fm <+: (funSt σ f).fm := by
  by_cases h : f ∈ σ.funs
  · rw [funSt_in h]; exact List.prefix_refl _
  · rw [funSt_out h]
    simp only
    rw [strSt_fm, strSt_fm]
    unfold ab; simp only [List.append_assoc]; exact List.prefix_append _ _

structure Pre (σ τ : St) : Prop where
  st : σ.st <+: τ.st
  fm : σ.fm <+: τ.fm
  lm : σ.lm <+: τ.lm

theorem Pre.refl (σ : St) : Pre σ σ := ⟨List.prefix_refl _, List.prefix_refl _, List.prefix_refl _⟩
theorem Pre.trans {σ τ υ : St} (h : Pre σ τ) (k : Pre τ υ) : Pre σ υ := ⟨h.st.trans k.st, h.fm.trans k.fm, h.lm.trans k.lm⟩

theorem locSt_pre (σ : St) (f : Fr) : Pre σ (locSt σ f) := by
  by_cases h : f ∈ σ.locs
  · rw [locSt_in h]; exact Pre.refl _
  · rw [locSt_out h]
    refine ⟨funSt_st_pre (addLoc σ f) ⟨f.fn, f.fl⟩, funSt_fm_pre (addLoc σ f) ⟨f.fn, f.fl⟩, ?_⟩
    simp only
    rw [funSt_lm]
    unfold ab; simp only [List.append_assoc]; exact List.prefix_append _ _

theorem runTo_pre (Fs : Nat → Fr) {a b : Nat} (h : a ≤ b) : Pre (runTo Fs a) (runTo Fs b) := by
  induction b with
  | zero => obtain rfl : a = 0 := by omega
            exact Pre.refl _
  | succ b ih =>
    by_cases e : a = b + 1
    · subst e; exact Pre.refl _
    · exact (ih (by omega)).trans (locSt_pre _ _)

theorem locSt_locs_out {σ : St} {f : Fr} (h : f ∉ σ.locs) : (locSt σ f).locs = σ.locs ++ [f] := by
  rw [locSt_out h]
  simp only
  rw [funSt_locs]; rfl

theorem locSt_fits {σ : St} {f : Fr} {M : Nat} (h : Fits σ M) (hM : M ≤ 137438953472) (hf : Sml f) (ha : f.a < 18446744073709551616) : Fits (locSt σ f) (M + 4194304) := by
  obtain ⟨h1, h2, h3, h4, h5, h6⟩ := h
  by_cases hin : f ∈ σ.locs
  · rw [locSt_in hin]; exact ⟨by omega, by omega, by omega, by omega, by omega, by omega⟩
  · rw [locSt_out hin]
    have e1 : (addLoc σ f).strs = σ.strs := rfl
    have e2 : (addLoc σ f).st = σ.st := rfl
    have e3 : (addLoc σ f).funs = σ.funs := rfl
    have e4 : (addLoc σ f).fm = σ.fm := rfl
    have e5 : (addLoc σ f).lm = σ.lm := rfl
    have e6 : (addLoc σ f).locs = σ.locs ++ [f] := rfl
    have k1 := funSt_strs (addLoc σ f) ⟨f.fn, f.fl⟩
    have k2 := funSt_st (addLoc σ f) ⟨f.fn, f.fl⟩ hf.1 hf.2
    have k3 := funSt_funs (addLoc σ f) ⟨f.fn, f.fl⟩
    have k4 := funSt_fm (addLoc σ f) ⟨f.fn, f.fl⟩ (by rw [e1]; omega) (by rw [e3]; omega)
    have k5 := funId_le (addLoc σ f) ⟨f.fn, f.fl⟩
    rw [e1] at k1; rw [e2] at k2; rw [e3] at k3 k5; rw [e4] at k4
    have l1 := lineMsg_len (funId (addLoc σ f) ⟨f.fn, f.fl⟩) f.ln (by omega)
    have l2 := locMsg_len (1 + σ.locs.length) f _ (by omega) ha l1
    have l3 := ab_length 4 (locMsg (1 + σ.locs.length) f (lineMsg (funId (addLoc σ f) ⟨f.fn, f.fl⟩) f.ln)) (funSt (addLoc σ f) ⟨f.fn, f.fl⟩).lm (by decide) (by omega)
    have l4 : (funSt (addLoc σ f) ⟨f.fn, f.fl⟩).lm = σ.lm := by rw [funSt_lm, e5]
    have l5 : (funSt (addLoc σ f) ⟨f.fn, f.fl⟩).locs.length = σ.locs.length + 1 := by rw [funSt_locs, e6]; simp
    rw [l4] at l3
    refine ⟨?_, ?_, ?_, ?_, ?_, ?_⟩
    · simp only; omega
    · simp only; omega
    · simp only; omega
    · simp only; omega
    · simp only; omega
    · simp only; rw [l4]; omega

theorem runTo_fits (Fs : Nat → Fr) (n : Nat) (hn : n ≤ 1024) (hs : ∀ i, i < n → Sml (Fs i)) (ho : ∀ i, i < n → (Fs i).Ok) : ∀ k, k ≤ n → Fits (runTo Fs k) (k * 4194304)
  | 0, _ => ⟨Nat.zero_le _, Nat.zero_le _, Nat.zero_le _, Nat.zero_le _, Nat.zero_le _, Nat.zero_le _⟩
  | k + 1, h => by
    have ih := runTo_fits Fs n hn hs ho k (by omega)
    have := locSt_fits (f := Fs k) ih (by omega) (hs k (by omega)) (ho k (by omega)).a
    rw [Nat.add_mul, Nat.one_mul]
    exact this

theorem Fits.mono {σ : St} {M N : Nat} (h : Fits σ M) (hN : M ≤ N) : Fits σ N :=
  ⟨Nat.le_trans h.strs hN, Nat.le_trans h.st hN, Nat.le_trans h.funs hN, Nat.le_trans h.fm hN, Nat.le_trans h.locs hN, Nat.le_trans h.lm hN⟩

theorem runTo_locs (Fs : Nat → Fr) : ∀ k, (runTo Fs k).locs.length ≤ k
  | 0 => Nat.le_refl _
  | k + 1 => by
    have ih := runTo_locs Fs k
    show (locSt (runTo Fs k) (Fs k)).locs.length ≤ _
    by_cases hin : Fs k ∈ (runTo Fs k).locs
    · rw [locSt_in hin]; omega
    · rw [locSt_locs_out hin, List.length_append]; simpa using ih

/-! ### a new builder -/
def NewB (w : World) (e : Ending) (w' : World) : Prop := ∃ p, e = .returned (.pointer (some ⟨p, 0, none⟩)) ∧ Bd w' p (fun k => w.heap.size ≤ k ∧ k < w'.heap.size) St.empty ∧ w.grownBy w' none

theorem newB_mk (w : World) : NewB w (.returned (.pointer (some ⟨w.heap.size + 3, 0, none⟩))) ((((w.alloc (.map #[] 0)).alloc (.map #[] 0)).alloc (.map #[] 0)).alloc (.cells (bdCells w.heap.size (w.heap.size + 1) (w.heap.size + 2) (.slice none 0 0) (.slice none 0 0) (.slice none 0 0)) 49)) := by
  have g1 := World.grownBy_alloc w (.map #[] 0) none
  have g2 := World.grownBy_alloc (w.alloc (.map #[] 0)) (.map #[] 0) none
  have g3 := World.grownBy_alloc ((w.alloc (.map #[] 0)).alloc (.map #[] 0)) (.map #[] 0) none
  have g4 := World.grownBy_alloc (((w.alloc (.map #[] 0)).alloc (.map #[] 0)).alloc (.map #[] 0)) (.cells (bdCells w.heap.size (w.heap.size + 1) (w.heap.size + 2) (.slice none 0 0) (.slice none 0 0) (.slice none 0 0)) 49) none
  have s1 : (w.alloc (.map #[] 0)).heap.size = w.heap.size + 1 := by simp
  have s2 : ((w.alloc (.map #[] 0)).alloc (.map #[] 0)).heap.size = w.heap.size + 2 := by simp
  have s3 : (((w.alloc (.map #[] 0)).alloc (.map #[] 0)).alloc (.map #[] 0)).heap.size = w.heap.size + 3 := by simp
  have m1 := MapIs.new 9 2 .i64 Bs.val 0 w
  have m2 := MapIs.new 55 28 .u64 fnV 1 (w.alloc (.map #[] 0))
  have m3 := MapIs.new 31 28 .u64 Fr.val 1 ((w.alloc (.map #[] 0)).alloc (.map #[] 0))
  have o4 := heap_alloc_new (((w.alloc (.map #[] 0)).alloc (.map #[] 0)).alloc (.map #[] 0)) (.cells (bdCells w.heap.size (w.heap.size + 1) (w.heap.size + 2) (.slice none 0 0) (.slice none 0 0) (.slice none 0 0)) 49)
  have s4 : ((((w.alloc (.map #[] 0)).alloc (.map #[] 0)).alloc (.map #[] 0)).alloc (.cells (bdCells w.heap.size (w.heap.size + 1) (w.heap.size + 2) (.slice none 0 0) (.slice none 0 0) (.slice none 0 0)) 49)).heap.size = w.heap.size + 4 := by simp
  generalize ((((w.alloc (.map #[] 0)).alloc (.map #[] 0)).alloc (.map #[] 0)).alloc (.cells (bdCells w.heap.size (w.heap.size + 1) (w.heap.size + 2) (.slice none 0 0) (.slice none 0 0) (.slice none 0 0)) 49)) = w4 at *
  generalize (((w.alloc (.map #[] 0)).alloc (.map #[] 0)).alloc (.map #[] 0)) = w3 at *
  generalize ((w.alloc (.map #[] 0)).alloc (.map #[] 0)) = w2 at *
  generalize (w.alloc (.map #[] 0)) = w1 at *
  rw [s1] at m2
  rw [s2] at m3
  rw [s3] at o4
  refine ⟨w.heap.size + 3, rfl, ⟨w.heap.size, w.heap.size + 1, w.heap.size + 2, .slice none 0 0, .slice none 0 0, .slice none 0 0, ?_⟩, ((g1.trans g2).trans g3).trans g4⟩
  have nb : ∀ {r : Nat}, some r ≠ (none : Option Nat) := by simp
  refine ⟨o4, ⟨by omega, by omega⟩, ⟨by omega, by omega⟩, ⟨by omega, by omega⟩, ⟨by omega, by omega⟩, by omega, by omega, by omega, ?_, ?_, ?_, row_nil _, row_nil _, row_nil _, (fun _ h => by cases h), (fun _ h => by cases h), (fun _ h => by cases h), (fun _ h => by cases h), (fun _ h => by cases h), (fun _ h => by cases h), fun _ h => h.2⟩
  · refine m1.same ?_
    rw [g4.block _ (by omega) nb, g3.block _ (by omega) nb, g2.block _ (by omega) nb]
  · refine m2.same ?_
    rw [g4.block _ (by omega) nb, g3.block _ (by omega) nb]
  · refine m3.same ?_
    rw [g4.block _ (by omega) nb]

set_option maxRecDepth 100000 in
set_option maxHeartbeats 4000000 in
theorem new8 (w : World) : Calls Try.prog 8 #[] w fun e w' => NewB w e w' := by
  have h := newB_mk w
  unfold bdCells at h
  have hmm := @run_makeMap Try.prog
  go_enter Try.func8, Try.ntmps8
  go_wp2
  go_ret
  exact h

end Go.Proofs.Qxb6609280a
