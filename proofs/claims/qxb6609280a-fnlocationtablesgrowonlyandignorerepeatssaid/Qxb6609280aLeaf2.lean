import Derived.Test.Qxb6609280aLeaf
namespace Go.Proofs.Qxb6609280a
open Go.RowKit Go.Maps

def RetInt (w : World) (e : Ending) (w' : World) : Prop := ∃ (z : Int) (q : Nat), e = .returned (.int .i64 z) ∧ w' = w.drewN q
theorem RetInt.mk (w : World) (z : Int) (q : Nat) : RetInt w (.returned (.int .i64 z)) (w.drewN q) := ⟨z, q, rfl, rfl⟩

set_option maxRecDepth 100000 in
set_option maxHeartbeats 4000000 in
theorem frames7 (a : Option Addr) (n c : Nat) (Fs : Nat → Fr) (w : World) (h1 : n ≤ 1024) (hF : RdF w a n Fs) (sF : ∀ i, i < n → Sml (Fs i)) :
    Calls Try.prog 7 #[.slice a n c] w fun e w' => RetInt w e w' := by
  go_enter Try.func7, Try.ntmps7
  go_wp2
  go_loopg [3, 4] n (fun g t i wr => ∃ (k q : Nat) (z : Int), k ≤ n ∧ g = n - k ∧ i = .int .i64 k ∧ t = .int .i64 z ∧ wr = w.drewN q)
  case atStart => exact ⟨0, 0, 0, Nat.zero_le _, rfl, rfl, rfl, rfl⟩
  case round =>
    obtain ⟨k, q, z, hk, rfl, rfl, rfl, rfl⟩ := hrel
    by_cases hlt : k < n
    · obtain ⟨b, o, rfl, hc⟩ := hF.one (by omega)
      obtain ⟨x0, x1, x2, x3⟩ := hc k hlt
      obtain ⟨m1, m2⟩ := sF k hlt
      have i1 : (0 : Int) ≤ k := by omega
      have i2 : (k : Int) < n := by omega
      have m3 : ¬ ((1048576 : Int) < (Fs k).fn.size) := by omega
      have m4 : ¬ ((1048576 : Int) < (Fs k).fl.size) := by omega
      clear hc hF sF x0 x3
      go_wp2
      go_quiet (fail)
      go_wp2
      · go_ret
        exact RetInt.mk _ _ _
      · go_roundg (n - (k + 1))
        case measure => go_light; omega
        case rel => go_light; exact ⟨k + 1, _, _, by omega, rfl, by go_num, rfl, rfl⟩
    · obtain rfl : k = n := by omega
      have hkn : ¬ ((k : Int) < k) := by omega
      clear hF sF
      go_wp2
      go_ret
      exact RetInt.mk _ _ _

theorem frAt_new (w : World) (f : Fr) (t : TypeId) : FrAt (w.alloc (.cells #[.int .u64 f.a, .string f.fn, .string f.fl, .int .i64 f.ln] t)) w.heap.size 0 f :=
  ⟨by rw [World.cell?_alloc_new]; rfl, by rw [World.cell?_alloc_new]; rfl, by rw [World.cell?_alloc_new]; rfl, by rw [World.cell?_alloc_new]; rfl⟩

set_option maxRecDepth 100000 in
set_option maxHeartbeats 4000000 in
theorem toFrame10 (f : Fr) (w : World) : Calls Try.prog 10 #[f.val] w fun e w' => e = .returned f.val ∧ w.grownBy w' none := by
  simp only [Fr.val]
  go_enter Try.func10, Try.ntmps10
  go_wp2
  exact bodyPost_ret (v := .agg #[.int .u64 f.a, .string f.fn, .string f.fl, .int .i64 f.ln]) (by simp [results, Try.results10, go_sem]) rfl ⟨rfl, (World.grownBy_alloc _ _ _).trans (World.grownBy_alloc _ _ _)⟩

set_option maxRecDepth 100000 in
set_option maxHeartbeats 4000000 in
theorem table13 (p : Nat) (v : Value) (a : Option Addr) (n c : Nat) (w : World) (hv : v = .slice a n c) (hc : w.cell? ⟨p, 5, none⟩ = some v) : Calls Try.prog 13 #[.pointer (some ⟨p, 0, none⟩)] w fun e w' => e = .returned v ∧ w' = w := by
  subst hv
  go_enter Try.func13, Try.ntmps13
  go_wp2
  go_ret
  exact ⟨rfl, rfl⟩

set_option maxRecDepth 100000 in
set_option maxHeartbeats 4000000 in
theorem table14 (p : Nat) (v : Value) (a : Option Addr) (n c : Nat) (w : World) (hv : v = .slice a n c) (hc : w.cell? ⟨p, 6, none⟩ = some v) : Calls Try.prog 14 #[.pointer (some ⟨p, 0, none⟩)] w fun e w' => e = .returned v ∧ w' = w := by
  subst hv
  go_enter Try.func14, Try.ntmps14
  go_wp2
  go_ret
  exact ⟨rfl, rfl⟩

set_option maxRecDepth 100000 in
set_option maxHeartbeats 4000000 in
theorem table15 (p : Nat) (v : Value) (a : Option Addr) (n c : Nat) (w : World) (hv : v = .slice a n c) (hc : w.cell? ⟨p, 7, none⟩ = some v) : Calls Try.prog 15 #[.pointer (some ⟨p, 0, none⟩)] w fun e w' => e = .returned v ∧ w' = w := by
  subst hv
  go_enter Try.func15, Try.ntmps15
  go_wp2
  go_ret
  exact ⟨rfl, rfl⟩

/-- what a row's reading gives: the slice's shape, its cells -/
theorem Row.read {w : World} {v : Value} {b : List UInt8} (h : Row w v b) : ∃ a g c, v = .slice a b.length c ∧ (0 < b.length → a = some ⟨g, 0, none⟩) ∧ ∀ i, i < b.length → w.cell? ⟨g, i, none⟩ = some (.int .u8 ((b.getD i 0).toNat : Int)) := by
  by_cases hb : b = []
  · subst hb
    rcases h.2 with ⟨h0, _⟩ | ⟨g, cap, cur, hv, _⟩
    · exact ⟨none, 0, 0, h0, fun h => absurd h (Nat.not_lt_zero _), fun i hi => absurd hi (Nat.not_lt_zero _)⟩
    · exact ⟨_, g, cap, hv, fun _ => rfl, fun i hi => absurd hi (Nat.not_lt_zero _)⟩
  · obtain ⟨g, c, hv, _, hs⟩ := h.src hb
    refine ⟨_, g, c, hv, fun _ => rfl, fun i hi => ?_⟩
    rw [← cell_add]
    refine hs.cell i _ ?_
    simp [Lib.byteCells, hi]

set_option maxRecDepth 100000 in
set_option maxHeartbeats 4000000 in
theorem isPrefix16 (v1 v2 : Value) (b1 b2 : List UInt8) (w : World) (r1 : Row w v1 b1) (r2 : Row w v2 b2) (hp : b1 <+: b2) (hl : b2.length ≤ 1099511627776) :
    Calls Try.prog 16 #[v1, v2] w fun e w' => e = .returned (.bool true) ∧ ∃ q, w' = w.drewN q := by
  obtain ⟨a1, g1, c1, rfl, s1, d1⟩ := r1.read
  obtain ⟨a2, g2, c2, rfl, s2, d2⟩ := r2.read
  have hle := hp.length_le
  have he : ∀ i, i < b1.length → (b2.getD i 0).toNat = (b1.getD i 0).toNat := fun i hi => by
    obtain ⟨t, rfl⟩ := hp
    simp [List.getD, List.getElem?_append_left hi]
  clear r1 r2 hp
  generalize b1.length = n1 at *
  generalize b2.length = n2 at *
  go_enter Try.func16, Try.ntmps16
  go_wp2
  go_loopg [5] n1 (fun g i wr => ∃ k q, k ≤ n1 ∧ g = n1 - k ∧ i = .int .i64 (k : Nat) ∧ wr = w.drewN q)
  case atStart => exact ⟨0, 0, Nat.zero_le _, rfl, rfl, rfl⟩
  case round =>
    obtain ⟨k, q, hk, rfl, rfl, rfl⟩ := hrel
    by_cases hlt : k < n1
    · obtain rfl := s1 (by omega)
      obtain rfl := s2 (by omega)
      have x1 := d1 k hlt
      have x2 := d2 k (by omega)
      rw [he k hlt] at x2
      have i1 : (0 : Int) ≤ k := by omega
      have i2 : (k : Int) < n1 := by omega
      have i3 : (k : Int) < n2 := by omega
      generalize (b1.getD k 0).toNat = u at x1 x2
      clear d1 d2 s1 s2 he
      go_wp2
      go_quiet (fail)
      go_wp2
      go_roundg (n1 - (k + 1))
      case measure => go_light; omega
      case rel => go_light; exact ⟨k + 1, _, by omega, rfl, by go_num, rfl⟩
    · obtain rfl : k = n1 := by omega
      have hkn : ¬ ((k : Int) < k) := by omega
      clear d1 d2 s1 s2 he
      go_wp2
      go_ret
      exact ⟨rfl, _, rfl⟩

set_option maxRecDepth 100000 in
set_option maxHeartbeats 4000000 in
theorem same12 (v1 v2 : Value) (b : List UInt8) (w : World) (r1 : Row w v1 b) (r2 : Row w v2 b) (hl : b.length ≤ 1099511627776) :
    Calls Try.prog 12 #[v1, v2] w fun e w' => e = .returned (.bool true) ∧ ∃ q, w' = w.drewN q := by
  have c16 := isPrefix16 v1 v2 b b w r1 r2 (List.prefix_refl b) hl
  obtain ⟨a1, g1, c1, rfl, s1, d1⟩ := r1.read
  obtain ⟨a2, g2, c2, rfl, s2, d2⟩ := r2.read
  clear r1 r2 s1 s2 d1 d2
  generalize b.length = n1 at *
  go_enter Try.func12, Try.ntmps12
  go_wp2_with fail
  refine c16.mono ?_
  rintro e w1 ⟨rfl, q, rfl⟩
  clear c16
  go_wp2
  go_ret
  exact ⟨rfl, _, rfl⟩

/-! ### the frame sought -/
noncomputable def findZ (L : List Fr) (f : Fr) : Int := if f ∈ L then (L.idxOf f : Int) else -1

theorem Try.wide33 : (match Try.prog.underlying 33 with | some (.array _ _) | some (.struct _) => true | _ => false) = true := by kernel_rfl
theorem Try.keyType33 : Try.prog.keyType 33 = true := by kernel_rfl
theorem Try.cells33 : Try.prog.cellsOf 33 = 4 := by kernel_rfl
theorem Try.row33 : (33 : TypeId) < Try.prog.types.size := of_decide_eq_true (by kernel_rfl)
theorem law33 : Keyed Try.prog 33 := Keyed.of_law (deep_law_laid Try.laidOut (m := 2) (by omega) Try.row33 (by kernel_rfl) Try.wide33)
theorem Try.keyAt33 : Try.prog.keyTypeAt 2 33 = true := by kernel_rfl

theorem key33 {f : Fr} (h : f.Ok) : ∃ kl, keyOf Try.prog 33 f.val = some kl := by
  obtain ⟨m, hm⟩ := Try.sized
  exact Option.isSome_iff_exists.1 (key_four Try.underlying33 Try.keyType33 Try.cells33 Try.underlying9 Try.cells9 Try.underlying28 Try.cells28 Try.underlying2 Try.cells2 rfl rfl rfl rfl rfl rfl rfl rfl (by decide) (by decide) (by decide) (by decide) hm h.fn h.fl (wf_u64 h.a) (wf_i64 h.lo h.hi))

theorem eql33 {f g : Fr} (hf : f.Ok) (hg : g.Ok) (w : World) : (binOp .eql 33 f.val g.val).run Try.prog w = .ok (.bool (decide (f = g))) w := by
  obtain ⟨kf, hkf⟩ := key33 hf
  obtain ⟨kg, hkg⟩ := key33 hg
  obtain ⟨r, hr, hiff⟩ := run_equal_deep w (m := 2) (by omega) Try.keyAt33 Try.wide33 hkf hkg
  have e : r = decide (f = g) := by
    by_cases h : f = g
    · subst h; rw [decide_eq_true rfl]; rw [hkf] at hkg; exact hiff.2 (Option.some.inj hkg)
    · rw [decide_eq_false h]
      cases r
      · rfl
      · exact absurd (Fr.val_inj (law33.inj hkf (hiff.1 rfl ▸ hkg))) h
  rw [e] at hr
  simp only [Fr.val] at hr ⊢
  simp only [binOp, Sem.run_bind, hr, Result.andThen_ok, Sem.run_pure]

end Go.Proofs.Qxb6609280a
