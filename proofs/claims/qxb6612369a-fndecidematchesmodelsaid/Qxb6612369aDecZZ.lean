import Derived.Test.Qxb6612369aDecDecide2
namespace Go.Proofs.Qxb6612369a
open Go.RowKit

/-- decide's states and its verdict -/
def decPk (C : Nat → Bool) (P : Nat → Int) (R : Nat → Nat → Int) (n m : Nat) : List Nat := pickTo P R (fitTo (fun k => allTo (fun i => fs (C i) (P i) (R k i)) n) m) n
def decSt (C : Nat → Bool) (P : Nat → Int) (R : Nat → Nat → Int) (n m : Nat) (i : Nat) : Int :=
  if nFail P n = 0 then 1 else if nFail P n = 1 then (match decPk C P R n m with | x :: _ => R x i | [] => dflt (C i) (P i)) else dflt (C i) (P i)
def decAcc (C : Nat → Bool) (P : Nat → Int) (R : Nat → Nat → Int) (n m : Nat) : Bool :=
  if nFail P n = 0 then accZ m (fun k => allTo (fun i => R k i == 1) n) m else if nFail P n = 1 then (match decPk C P R n m with | _ :: _ => true | [] => m == 0) else false

theorem decide23 {cb n m sb : Nat} {Q : Nat → Option Addr} {ta : Option Addr} {tc : Nat} {TA : Nat → Option Addr} {TC : Nat → Nat} {R : Nat → Nat → Int} (w : World) (hC : CompIs w cb n m sb Q ta tc TA TC R)
    (pa : Option Addr) (pc : Nat) (P : Nat → Int) (hn : n ≤ 131072) (hm : m ≤ 65536) (hP : Rd w pa n (fun j => .int .i64 (P j))) :
    Calls Try.prog 23 #[.pointer (some ⟨cb, 0, none⟩), .slice pa n pc] w fun e w' =>
      e = .returned (.agg #[.slice (some ⟨w.heap.size + 1, 0, none⟩) n n, .bool (decAcc (fun i => (Q i).isSome) P R n m)]) ∧ w'.rowIs (w.heap.size + 1) 55 n (fun i => .int .i64 (decSt (fun i => (Q i).isSome) P R n m i)) ∧ Below w.heap.size w w' := by
  by_cases h0 : nFail P n = 0
  · have := dec_zero w hC pa pc P hn hm hP h0
    simpa only [decAcc, decSt, h0, if_true] using this
  by_cases h1 : nFail P n = 1
  · cases hp : decPk (fun i => (Q i).isSome) P R n m with
    | cons x r =>
      have := dec_row w hC pa pc P hn hm hP h1 x r hp
      simpa only [decAcc, decSt, h1, hp, if_true, show ((1 : Nat) = 0) = False from by simp, if_false] using this
    | nil =>
      have := dec_dflt w hC pa pc P hn hm hP 1 h1 (by omega) (fun wx hb => by
        have := answer_one wx (hC.below hb (Nat.le_refl _)) pa pc P hn hm (hP.below hb (Nat.le_refl _)) h1
        unfold decPk at hp
        rw [hp] at this
        exact this)
      simpa only [decAcc, decSt, h1, hp, if_true, show ((1 : Nat) = 0) = False from by simp, if_false, show ((1 : Nat) == 1) = true from rfl, Bool.true_and] using this
  · have := dec_dflt w hC pa pc P hn hm hP (nFail P n) rfl h0 (fun wx hb => by
      have := answer_no (cb := cb) wx pa pc P hn (hP.below hb (Nat.le_refl _)) h1
      exact this.mono fun e w' ⟨he, hw⟩ => ⟨he, hw ▸ Below.refl _ _⟩)
    simpa only [decAcc, decSt, h0, h1, if_false, beq_eq_false_iff_ne.2 h1, Bool.false_and] using this

/-! ### the steps' row -/

theorem Try.info52 : (Try.prog.info? 52).map (fun i => (i.zero, i.size, i.bytes)) = some (some (stepV none), 9, 96) := by kernel_rfl
theorem Try.info53 : (Try.prog.info? 53).map (fun i => (i.zero, i.size, i.bytes)) = some (some (.slice none 0 0), 1, 24) := by kernel_rfl
theorem Try.info57 : (Try.prog.info? 57).map (fun i => (i.zero, i.size, i.bytes)) = some (some (.int .i64 0), 1, 8) := by kernel_rfl
theorem Try.info3 : (Try.prog.info? 3).map (fun i => (i.zero, i.size, i.bytes)) = some (some (.int .i64 0), 1, 8) := by kernel_rfl

def stepCells (n : Nat) : Array Value := madeCells (stepV none).cells (n * 9)
def stepRow (Q : Nat → Option Addr) (j : Nat) : Value := stepC (Q (j / 9)) (j % 9)

theorem make43 (n : Nat) (hn : n ≤ 1048576) (w : World) :
    (Instr.makeSlice 43 (.int .i64 (n : Int)) (.int .i64 (n : Int))).run Try.prog w = .ok (.slice (some ⟨w.heap.size, 0, none⟩) n n) (w.alloc (.cells (stepCells n) 52)) := by
  obtain ⟨i, hi, hz0, hz1, hz2⟩ := info_parts Try.info52
  have hr := run_make (P := Try.prog) w 43 52 i (stepV none) Try.underlying43 hi hz0 .i64 .i64 n n (by omega) (Int.le_refl _) (by rw [hz2]; omega) (by omega)
  simp only [Int.toNat_natCast, hz1] at hr
  exact hr

theorem stepC_zero (r : Nat) (h : r < 9) : (stepV none).cells[r]? = some (stepC none r) := by
  match r, h with
  | 0, _ => rfl
  | 1, _ => rfl
  | 2, _ => rfl
  | 3, _ => rfl
  | 4, _ => rfl
  | 5, _ => rfl
  | 6, _ => rfl
  | 7, _ => rfl
  | 8, _ => rfl

theorem stepRow_start (w : World) (n : Nat) : (w.alloc (.cells (stepCells n) 52)).rowIs w.heap.size 52 (n * 9) (stepRow fun _ => none) := by
  have h := World.rowIs_alloc w (stepCells n) 52 (stepRow fun _ => none) (fun i hi => by
    have hs : (stepCells n).size = n * 9 := size_madeCells _ _
    rw [hs] at hi
    have h9 : (stepV none).cells.size = 9 := rfl
    have hz := stepC_zero (i % 9) (Nat.mod_lt _ (by omega))
    simp only [stepCells, madeCells, stepRow, h9]
    rw [Array.getElem?_map, Array.getElem?_range, if_pos hi]
    simp only [Option.map_some]
    rw [Array.getElem?_eq_some_iff] at hz
    obtain ⟨hlt, hz⟩ := hz
    rw [getElem!_pos (stepV none).cells (i % 9) hlt, hz])
  rw [show (stepCells n).size = n * 9 from size_madeCells _ _] at h
  exact h

theorem stepRow_set {w : World} {b n k : Nat} {Q : Nat → Option Addr} (h : w.rowIs b 52 (n * 9) (stepRow Q)) (p : Option Addr) :
    (w.setCell ⟨b, k * 9 + 4, none⟩ (.pointer p)).rowIs b 52 (n * 9) (stepRow fun i => if i = k then p else Q i) :=
  (h.set (k * 9 + 4) _).congr fun j _ => by
    unfold stepRow
    by_cases e : j = k * 9 + 4
    · subst e
      rw [if_pos rfl, show (k * 9 + 4) / 9 = k from by omega, show (k * 9 + 4) % 9 = 4 from by omega]
      simp [stepC]
    · rw [if_neg e]
      by_cases e2 : j / 9 = k
      · have h4 : j % 9 ≠ 4 := by omega
        have hlt : j % 9 < 9 := Nat.mod_lt _ (by omega)
        generalize j % 9 = r at h4 hlt
        match r, hlt, h4 with
        | 0, _, _ => rfl
        | 1, _, _ => rfl
        | 2, _, _ => rfl
        | 3, _, _ => rfl
        | 5, _, _ => rfl
        | 6, _, _ => rfl
        | 7, _, _ => rfl
        | 8, _, _ => rfl
      · simp only [if_neg e2]

theorem stepRow_cell {w : World} {b n : Nat} {Q : Nat → Option Addr} (h : w.rowIs b 52 (n * 9) (stepRow Q)) {i r : Nat} (hi : i < n) (hr : r < 9) : w.cell? ⟨b, i * 9 + r, none⟩ = some (stepC (Q i) r) := by
  rw [h.cell (by omega)]
  unfold stepRow
  rw [show (i * 9 + r) / 9 = i from by omega, show (i * 9 + r) % 9 = r from by omega]

end Go.Proofs.Qxb6612369a
