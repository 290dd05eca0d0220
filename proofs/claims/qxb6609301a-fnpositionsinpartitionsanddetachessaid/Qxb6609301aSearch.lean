import Derived.Test.Qxb6609301aBin
import Derived.Sort.Walk0
namespace Go.Proofs.Qxb6609301a
open Go.RowKit

/-- where the search for (c, d) stops -/
def Found (S G : Nat → ByteArray) (c d : ByteArray) (n i : Nat) : Prop := i ≤ n ∧ (∀ j, j < i → ck (S j) (G j) c d < 0) ∧ ∀ j, i ≤ j → j < n → ¬ ck (S j) (G j) c d < 0

theorem bin22' (pa : Option Addr) (n pc : Nat) (P : Nat → Nat) (S G : Nat → ByteArray) (c d : ByteArray) (w : World) (hn : n ≤ 65536) (hP : Poss w pa n P S G)
    (hmon : ∀ i j, i ≤ j → j < n → ck (S j) (G j) c d < 0 → ck (S i) (G i) c d < 0) :
    Calls Try.prog 22 #[.slice pa n pc, .agg #[.string c, .string d], .func (.func 23) #[] #[]] w fun e w' => ∃ i, RetIB i e ∧ Found S G c d n i ∧ Below w.heap.size w w' :=
  (bin22 pa n pc P S G c d w hn hP hmon).mono fun _ _ ⟨i, h1, h2, h3, h4, h5⟩ => ⟨i, h1, ⟨h2, h3, h4⟩, h5⟩

theorem keepA {w1 W W' : World} {n0 ab : Nat} {c d v : Value} (hn : n0 < w1.heap.size) (hpb : ab < w1.heap.size) (h : W.cell? ⟨n0, 0, none⟩ = some c ∧ W.cell? ⟨n0, 1, none⟩ = some d ∧ W.cell? ⟨ab, 4, none⟩ = some v ∧ Below w1.heap.size w1 W) (hb : Below W.heap.size W W') :
    W'.cell? ⟨n0, 0, none⟩ = some c ∧ W'.cell? ⟨n0, 1, none⟩ = some d ∧ W'.cell? ⟨ab, 4, none⟩ = some v ∧ Below w1.heap.size w1 W' := keep3 hn hpb h hb

set_option maxRecDepth 100000 in
set_option maxHeartbeats 1000000 in
theorem search15 (ab : Nat) (pa : Option Addr) (n pc : Nat) (P : Nat → Nat) (S G : Nat → ByteArray) (c d : ByteArray) (w : World) (hn : n ≤ 65536) (ha : w.cell? ⟨ab, 4, none⟩ = some (.slice pa n pc)) (hP : Poss w pa n P S G)
    (hmon : ∀ i j, i ≤ j → j < n → ck (S j) (G j) c d < 0 → ck (S i) (G i) c d < 0) :
    Calls Try.prog 15 #[.pointer (some ⟨ab, 0, none⟩), .agg #[.string c, .string d]] w fun e w' => ∃ i, RetIB i e ∧ Found S G c d n i ∧ Below w.heap.size w w' := by
  obtain ⟨w1, hw1⟩ : ∃ w1, w1 = w.alloc (.cells #[.string c, .string d] 64) := ⟨_, rfl⟩
  have hab : ab < w.heap.size := World.block_lt_of_cell? _ _ ha
  have hb1 : Below w.heap.size w w1 := hw1 ▸ (Below.refl _ _).alloc (Nat.le_refl _) _
  have hz1 : w1.heap.size = w.heap.size + 1 := by rw [hw1]; simp
  have hc0 : w1.cell? ⟨w.heap.size, 0, none⟩ = some (.string c) := hw1 ▸ new2_0 _ _ _ _
  have hc1 : w1.cell? ⟨w.heap.size, 1, none⟩ = some (.string d) := hw1 ▸ new2_1 _ _ _ _
  have ha1 : w1.cell? ⟨ab, 4, none⟩ = some (.slice pa n pc) := by rw [hb1.cell (p := ⟨ab, 4, none⟩) hab]; exact ha
  have hP1 : Poss w1 pa n P S G := hP.below hb1 (Nat.le_refl _)
  have cl : ∀ W, (W.cell? ⟨w.heap.size, 0, none⟩ = some (.string c) ∧ W.cell? ⟨w.heap.size, 1, none⟩ = some (.string d) ∧ W.cell? ⟨ab, 4, none⟩ = some (.slice pa n pc) ∧ Below w1.heap.size w1 W) →
      Calls Try.prog 22 #[.slice pa n pc, .agg #[.string c, .string d], .func (.func 23) #[] #[]] W fun e w' => ∃ i, RetIB i e ∧ Found S G c d n i ∧ Below W.heap.size W w' :=
    fun W h => bin22' pa n pc P S G c d W hn (hP1.below h.2.2.2 (Nat.le_refl _)) hmon
  have hst : w1.drew.cell? ⟨w.heap.size, 0, none⟩ = some (.string c) ∧ w1.drew.cell? ⟨w.heap.size, 1, none⟩ = some (.string d) ∧ w1.drew.cell? ⟨ab, 4, none⟩ = some (.slice pa n pc) ∧ Below w1.heap.size w1 w1.drew := ⟨hc0, hc1, ha1, (Below.refl _ _).drew⟩
  have hlt0 : w.heap.size < w1.heap.size := by omega
  have hlt1 : ab < w1.heap.size := by omega
  clear hP hP1 hmon ha
  go_enter Try.func15, Try.ntmps15
  go_wp2
  rw [← hw1]
  clear hw1 hc0 hc1 ha1
  go_region_held (fun W => W.cell? ⟨w.heap.size, 0, none⟩ = some (.string c) ∧ W.cell? ⟨w.heap.size, 1, none⟩ = some (.string d) ∧ W.cell? ⟨ab, 4, none⟩ = some (.slice pa n pc) ∧ Below w1.heap.size w1 W)
    (first | exact hst | exact keepA hlt0 hlt1 (by assumption) (by assumption))
    (first | (go_at_call 22; refine (cl _ (by assumption)).mono ?_; rintro e w' ⟨i, ⟨b, rfl⟩, hF, hbk⟩))
  all_goals go_wp2
  all_goals go_ret2
  all_goals exact ⟨_, .mk _ _, by assumption, hb1.trans ((bel3 (w1 := w1) (by assumption)).mono hb1.size)⟩

end Go.Proofs.Qxb6609301a
