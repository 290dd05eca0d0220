import Derived.Test.Qxb6609301aKeys
namespace Go.Proofs.Qxb6609301a
open Go.RowKit

/-- a position's block: its contract (of symbol s) and its leg -/
def PosAt (w : World) (p : Nat) (s g : ByteArray) : Prop :=
  ∃ cp c cc, w.heap[p]? = some (.cells c 58 (0, 0)) ∧ c[9]? = some (.pointer (some ⟨cp, 0, none⟩)) ∧ c[10]? = some (.string g) ∧ w.heap[cp]? = some (.cells cc 55 (0, 0)) ∧ cc[0]? = some (.string s)

theorem PosAt.cells {w : World} {p : Nat} {s g : ByteArray} (h : PosAt w p s g) : ∃ cp, w.cell? ⟨p, 9, none⟩ = some (.pointer (some ⟨cp, 0, none⟩)) ∧ w.cell? ⟨p, 10, none⟩ = some (.string g) ∧ w.cell? ⟨cp, 0, none⟩ = some (.string s) ∧ p < w.heap.size ∧ cp < w.heap.size := by
  obtain ⟨cp, c, cc, h1, h2, h3, h4, h5⟩ := h
  refine ⟨cp, by simp [World.cell?, h1, h2], by simp [World.cell?, h1, h3], by simp [World.cell?, h4, h5], ?_, ?_⟩
  · obtain ⟨hl, _⟩ := Array.getElem?_eq_some_iff.1 h1; exact hl
  · obtain ⟨hl, _⟩ := Array.getElem?_eq_some_iff.1 h4; exact hl

theorem PosAt.below {w w' : World} {B p : Nat} {s g : ByteArray} (h : PosAt w p s g) (hb : Below B w w') (hB : w.heap.size ≤ B) : PosAt w' p s g := by
  obtain ⟨cp, c, cc, h1, h2, h3, h4, h5⟩ := h
  have l1 : p < w.heap.size := by obtain ⟨hl, _⟩ := Array.getElem?_eq_some_iff.1 h1; exact hl
  have l2 : cp < w.heap.size := by obtain ⟨hl, _⟩ := Array.getElem?_eq_some_iff.1 h4; exact hl
  exact ⟨cp, c, cc, by rw [hb.block p (by omega)]; exact h1, h2, h3, by rw [hb.block cp (by omega)]; exact h4, h5⟩

set_option maxHeartbeats 1000000 in
theorem fromInt12 (w : World) : Calls Try.prog 12 #[.int .i64 1] w fun e w' => e = .returned (.agg #[.int .i64 1, .pointer none, .int .i32 0]) ∧ w' = w.alloc (.cells #[.int .i64 1, .pointer none, .int .i32 0] 33) := by
  go_enter Try.func12, Try.ntmps12
  go_wp2
  exact bodyPost_ret (v := .agg #[.int .i64 1, .pointer none, .int .i32 0]) (by simp [results, Try.results12, go_sem]) rfl ⟨rfl, rfl⟩

set_option maxHeartbeats 1000000 in
theorem key25 (p : Nat) (s g : ByteArray) (w : World) (hp : PosAt w p s g) : Calls Try.prog 25 #[.pointer (some ⟨p, 0, none⟩)] w fun e w' => e = .returned (.agg #[.string s, .string g]) ∧ Below w.heap.size w w' := by
  obtain ⟨cp, h9, h10, h0, hl1, hl2⟩ := hp.cells
  clear hp
  go_enter Try.func25, Try.ntmps25
  go_wp2
  go_big_region
  all_goals go_wp2
  exact bodyPost_ret (v := .agg #[.string s, .string g]) (by simp [results, Try.results25, go_sem]) rfl ⟨rfl, ((Below.refl _ _).alloc (Nat.le_refl _) _).drew⟩

/-- behind a callee: what was held is held -/
theorem keep2 {w1 W W' : World} {n0 : Nat} {c d : Value} (hn : n0 < w1.heap.size) (h : W.cell? ⟨n0, 0, none⟩ = some c ∧ W.cell? ⟨n0, 1, none⟩ = some d ∧ Below w1.heap.size w1 W) (hb : Below W.heap.size W W') :
    W'.cell? ⟨n0, 0, none⟩ = some c ∧ W'.cell? ⟨n0, 1, none⟩ = some d ∧ Below w1.heap.size w1 W' := by
  have hs := h.2.2.size
  exact ⟨by rw [hb.cell (p := ⟨n0, 0, none⟩) (by show n0 < _; omega)]; exact h.1, by rw [hb.cell (p := ⟨n0, 1, none⟩) (by show n0 < _; omega)]; exact h.2.1, h.2.2.trans (hb.mono hs)⟩

theorem close2 {w w1 W : World} {n0 : Nat} {c d : Value} (hb : Below w.heap.size w w1) (h : W.cell? ⟨n0, 0, none⟩ = some c ∧ W.cell? ⟨n0, 1, none⟩ = some d ∧ Below w1.heap.size w1 W) : Below w.heap.size w W :=
  hb.trans (h.2.2.mono hb.size)

set_option maxRecDepth 100000 in
set_option maxHeartbeats 1000000 in
theorem closure23 (p : Nat) (s g c d : ByteArray) (w : World) (hp : PosAt w p s g) : Calls Try.prog 23 #[.pointer (some ⟨p, 0, none⟩), .agg #[.string c, .string d]] w fun e w' => e = .returned (.int .i64 (ck s g c d)) ∧ Below w.heap.size w w' := by
  obtain ⟨w1, hw1⟩ : ∃ w1, w1 = w.alloc (.cells #[.string c, .string d] 64) := ⟨_, rfl⟩
  have hb1 : Below w.heap.size w w1 := hw1 ▸ (Below.refl _ _).alloc (Nat.le_refl _) _
  have hz1 : w1.heap.size = w.heap.size + 1 := by rw [hw1]; simp
  have hc0 : w1.cell? ⟨w.heap.size, 0, none⟩ = some (.string c) := by rw [hw1, World.cell?_alloc_new]; rfl
  have hc1 : w1.cell? ⟨w.heap.size, 1, none⟩ = some (.string d) := by rw [hw1, World.cell?_alloc_new]; rfl
  have hP : ∀ W, (W.cell? ⟨w.heap.size, 0, none⟩ = some (.string c) ∧ W.cell? ⟨w.heap.size, 1, none⟩ = some (.string d) ∧ Below w1.heap.size w1 W) → PosAt W p s g := fun W h => (hp.below hb1 (Nat.le_refl _)).below h.2.2 (Nat.le_refl _)
  have hlt : w.heap.size < w1.heap.size := by omega
  have hst : w1.drew.cell? ⟨w.heap.size, 0, none⟩ = some (.string c) ∧ w1.drew.cell? ⟨w.heap.size, 1, none⟩ = some (.string d) ∧ Below w1.heap.size w1 w1.drew := ⟨hc0, hc1, (Below.refl _ _).drew⟩
  clear hp
  go_enter Try.func23, Try.ntmps23
  go_wp2
  rw [← hw1]
  clear hw1 hc0 hc1
  go_region_held (fun W => W.cell? ⟨w.heap.size, 0, none⟩ = some (.string c) ∧ W.cell? ⟨w.heap.size, 1, none⟩ = some (.string d) ∧ Below w1.heap.size w1 W)
    (first | exact hst | exact keep2 hlt (by assumption) (by assumption))
    (first | (go_at_call 25; refine (key25 p s g _ (hP _ (by assumption))).mono ?_; rintro e w' ⟨rfl, hbk⟩) | (go_at_call 24; refine (compareKeys24 s g c d _).mono ?_; rintro e w' ⟨rfl, hbk⟩))
  all_goals go_wp2
  all_goals go_ret
  all_goals exact ⟨rfl, close2 hb1 (n0 := w.heap.size) (c := .string c) (d := .string d) (by assumption)⟩

end Go.Proofs.Qxb6609301a
