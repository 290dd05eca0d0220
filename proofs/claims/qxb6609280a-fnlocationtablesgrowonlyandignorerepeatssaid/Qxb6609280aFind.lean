import Derived.Test.Qxb6609280aLeaf2
namespace Go.Proofs.Qxb6609280a
open Go.RowKit Go.Maps

/-- the firsts: their slice reads places, each of a frame of L -/
structure Firsts (w : World) (v : Value) (L : List Fr) (n : Nat) (Fs : Nat → Fr) : Prop where
  ex : ∃ J : List Nat, J.length = L.length ∧ w.ownsRow 0 3 1 v J.length (J.map fun j : Nat => Value.int .i64 (j : Int)) ∧ ∀ k, k < L.length → J.getD k 0 < n ∧ L[k]? = some (Fs (J.getD k 0))

theorem Firsts.read {w : World} {v : Value} {L : List Fr} {n : Nat} {Fs : Nat → Fr} (h : Firsts w v L n Fs) : ∃ a g c, v = .slice a L.length c ∧ (0 < L.length → a = some ⟨g, 0, none⟩) ∧
    ∃ J : Nat → Nat, ∀ k, k < L.length → w.cell? ⟨g, k, none⟩ = some (.int .i64 (J k : Int)) ∧ J k < n ∧ L[k]? = some (Fs (J k)) := by
  obtain ⟨J, hl, hown, hj⟩ := h
  rcases hown.2 with ⟨rfl, h0⟩ | ⟨g, cap, cur, rfl, h1, h2, h3, h4, h5, h6⟩
  · rw [hl] at h0
    exact ⟨none, 0, 0, by rw [h0], fun h => by omega, fun _ => 0, fun k hk => by omega⟩
  · refine ⟨_, g, cap, by rw [hl], fun _ => rfl, fun k => J.getD k 0, fun k hk => ⟨?_, hj k hk⟩⟩
    rw [← cell_add]
    refine hown.cells rfl k _ ?_
    have : k < J.length := by omega
    simp [this]

theorem findZ_in {L : List Fr} {f : Fr} (h : f ∈ L) : findZ L f = (L.idxOf f : Int) := if_pos h
theorem findZ_out {L : List Fr} {f : Fr} (h : f ∉ L) : findZ L f = -1 := if_neg h

theorem idx_at {L : List Fr} {f : Fr} {k : Nat} (hk : L[k]? = some f) (hb : ∀ x, x < k → L[x]? ≠ some f) : f ∈ L ∧ L.idxOf f = k := by
  have hm : f ∈ L := List.mem_of_getElem? hk
  refine ⟨hm, ?_⟩
  have hlt : L.idxOf f < L.length := List.idxOf_lt_length_of_mem hm
  have h1 : L[L.idxOf f]? = some f := by rw [List.getElem?_eq_getElem hlt, List.getElem_idxOf hlt]
  rcases Nat.lt_trichotomy (L.idxOf f) k with h3 | h3 | h3
  · exact absurd h1 (hb _ h3)
  · exact h3
  · exfalso
    obtain ⟨hlk, e⟩ := List.getElem?_eq_some_iff.1 hk
    have := List.not_of_lt_findIdx (p := (· == f)) (xs := L) h3
    simp [e] at this

set_option maxRecDepth 100000 in
set_option maxHeartbeats 4000000 in
theorem find11 (a : Option Addr) (n c : Nat) (Fs : Nat → Fr) (v : Value) (L : List Fr) (f : Fr) (w : World) (hn : n ≤ 1024) (hL : L.length ≤ 1024) (hF : RdF w a n Fs) (sF : ∀ i, i < n → (Fs i).Ok) (hv : Firsts w v L n Fs) (hf : f.Ok) :
    Calls Try.prog 11 #[.slice a n c, v, f.val] w fun e w' => e = .returned (.int .i64 (findZ L f)) ∧ w.grownBy w' none := by
  obtain ⟨fa, fg, fc, rfl, s1, J, hJ⟩ := hv.read
  have hF1 := hF.below (w' := w.alloc (.cells #[.int .u64 f.a, .string f.fn, .string f.fl, .int .i64 f.ln] 33)) (fun k hk => (World.grownBy_alloc w _ none).block k hk (by simp))
  have hg0 := World.grownBy_alloc w (.cells #[.int .u64 f.a, .string f.fn, .string f.fl, .int .i64 f.ln] 33) none
  have hN := frAt_new w f 33
  have hJ1 : ∀ k, k < L.length → (w.alloc (.cells #[.int .u64 f.a, .string f.fn, .string f.fl, .int .i64 f.ln] 33)).cell? ⟨fg, k, none⟩ = some (.int .i64 (J k : Int)) := fun k hk => by
    rw [cell_heap (hg0.block fg (World.block_lt_of_cell? _ _ (hJ k hk).1) (by simp))]
    exact (hJ k hk).1
  simp only [Fr.val]
  clear hF hv
  go_enter Try.func11, Try.ntmps11
  go_wp2
  generalize hW : w.alloc (.cells #[.int .u64 f.a, .string f.fn, .string f.fl, .int .i64 f.ln] 33) = W at hF1 hg0 hN hJ1 ⊢
  obtain ⟨y0, y1, y2, y3⟩ := hN
  go_loopg [7] L.length (fun g i wr => ∃ k q, k ≤ L.length ∧ g = L.length - k ∧ i = .int .i64 (k : Nat) ∧ wr = W.drewN q ∧ Hid (∀ x, x < k → L[x]? ≠ some f))
  case atStart => exact ⟨0, 0, Nat.zero_le _, rfl, rfl, rfl, fun x hx => by omega⟩
  case round =>
    obtain ⟨k, q, hk, rfl, rfl, rfl, HB⟩ := hrel
    by_cases hlt : k < L.length
    · obtain rfl := s1 (by omega)
      obtain ⟨_, j2, j3⟩ := hJ k hlt
      have j1 := hJ1 k hlt
      generalize J k = j at j1 j2 j3
      obtain ⟨b, o, rfl, hc⟩ := hF1.one (by omega)
      obtain ⟨x0, x1, x2, x3⟩ := hc j j2
      have heq := eql33 (sF j j2) hf
      simp only [Fr.val] at heq
      have i1 : (0 : Int) ≤ k := by omega
      have i2 : (k : Int) < L.length := by omega
      have i3 : (0 : Int) ≤ j := by omega
      have i4 : (j : Int) < n := by omega
      clear hc hF1 hJ hJ1 s1 sF
      by_cases hef : Fs j = f
      · rw [hef] at j3
        obtain ⟨hm, hix⟩ := idx_at j3 HB.out
        rw [decide_eq_true hef] at heq
        go_wp2
        go_quiet (fail)
        go_wp2
        go_ret
        exact ⟨by rw [findZ_in hm, hix]; first | rfl | congr 2, hg0.trans ⟨rfl, rfl, rfl, Nat.le_refl _, fun _ _ _ => rfl⟩⟩
      · have HB1 : Hid (∀ x, x < k + 1 → L[x]? ≠ some f) := upto HB.out (by rw [j3]; exact fun e => hef (Option.some.inj e))
        rw [decide_eq_false hef] at heq
        go_wp2
        go_quiet (fail)
        go_wp2
        go_roundg (L.length - (k + 1))
        case measure => go_light; omega
        case rel => go_light; exact ⟨k + 1, _, by omega, rfl, by go_num, rfl, HB1⟩
    · have hkn : ¬ ((k : Int) < L.length) := by omega
      have hout : f ∉ L := fun hm => by
        obtain ⟨x, hx, e⟩ := List.mem_iff_getElem.1 hm
        exact HB.out x (by omega) (by rw [List.getElem?_eq_getElem hx, e])
      clear hF1 hJ hJ1 s1 sF
      go_wp2
      go_ret
      exact ⟨by rw [findZ_out hout]; first | rfl | congr 2, hg0.trans ⟨rfl, rfl, rfl, Nat.le_refl _, fun _ _ _ => rfl⟩⟩

end Go.Proofs.Qxb6609280a
