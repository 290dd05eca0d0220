import Derived.Test.Qxb6612369aBase
import Derived.OpenShut
import Derived.ShutString
import Derived.ChangeOld
import Derived.Deep.Grids
import Derived.Deep.Matrix
namespace Go.Proofs.Qxb6612369a
open Go.ChangeShapes Go.WideShapes Go.ChangeAt Go.RowKit

theorem Try.own : ownKnob Try.prog.godebug = none := by kernel_rfl
theorem Try.laidOut : laidOutB Try.prog = true := by kernel_rfl
theorem Try.cells3 : Try.prog.cellsOf 3 = 1 := by kernel_rfl
theorem Try.cells4 : Try.prog.cellsOf 4 = 1 := by kernel_rfl
theorem Try.cells9 : Try.prog.cellsOf 9 = 1 := by kernel_rfl
theorem Try.cells28 : Try.prog.cellsOf 28 = 1 := by kernel_rfl

theorem rd_of_add {w : World} {a : Addr} {n : Nat} {f : Nat → Value} (h : ∀ i, i < n → w.cell? (a.add i) = some (f i)) : Rd w (some a) n f := by
  by_cases h0 : n = 0
  · subst h0; exact ⟨0, 0, by omega, by omega⟩
  · obtain ⟨b, o, sp⟩ := a
    have h1 := h 0 (by omega)
    cases sp with
    | some k =>
      exfalso
      simp only [Addr.add, if_pos, World.cell?] at h1
      split at h1 <;> simp at h1
    | none =>
      refine ⟨b, o, fun _ => rfl, fun i hi => ?_⟩
      have := h i hi
      by_cases e : i = 0
      · subst e; simpa [Addr.add] using this
      · simpa [Addr.add, e] using this

section
variable {H : Type} {enc : TypeId × Value → H} {W : World} {fuel : Nat}

theorem openBools {a : Option Addr} {n c : Nat} {x : DataW H × List MemPlace} (h : DataW.trod enc Try.prog W 0 (fun _ => true) true fuel 26 (Value.slice a n c).cells.toList = some x) :
    ∃ C : Nat → Bool, Rd W a n (fun i => .bool (C i)) ∧ n ≤ maxLen := by
  rcases Deep.open_bools Try.underlying26 Try.underlying4 Try.cells4 h with ⟨hcs, _⟩ | ⟨y, l, cp, B, hcs, _, hl, hm, _, hcell⟩
  · simp [Value.cells] at hcs
    obtain ⟨rfl, rfl, rfl⟩ := hcs
    exact ⟨fun _ => false, ⟨0, 0, by omega, by omega⟩, Nat.zero_le _⟩
  · simp [Value.cells] at hcs
    obtain ⟨rfl, rfl, rfl⟩ := hcs
    exact ⟨B, rd_of_add fun i hi => hcell i (by omega), by omega⟩

theorem openInts {a : Option Addr} {n c : Nat} {x : DataW H × List MemPlace} (h : DataW.trod enc Try.prog W 0 (fun _ => true) true fuel 28 (Value.slice a n c).cells.toList = some x) :
    ∃ P : Nat → Int, Rd W a n (fun i => .int .i64 (P i)) ∧ n ≤ maxLen := by
  rcases open_ints Try.underlying28 Try.underlying3 Try.cells3 h with ⟨hcs, _⟩ | ⟨y, l, cp, zs, hcs, _, hl, hm, hz, _, hcell, _⟩
  · simp [Value.cells] at hcs
    obtain ⟨rfl, rfl, rfl⟩ := hcs
    exact ⟨fun _ => 0, ⟨0, 0, by omega, by omega⟩, Nat.zero_le _⟩
  · simp [Value.cells] at hcs
    obtain ⟨rfl, rfl, rfl⟩ := hcs
    simp only [if_true] at hz
    exact ⟨fun i => zs.getD i 0, rd_of_add fun i hi => hcell i (by omega), by omega⟩

theorem openRows {a : Option Addr} {m c : Nat} {x : DataW H × List MemPlace} (h : DataW.trod enc Try.prog W 0 (fun _ => true) true fuel 27 (Value.slice a m c).cells.toList = some x) :
    ∃ (A : Nat → Option Addr) (L Cp : Nat → Nat) (R : Nat → Nat → Int), m ≤ maxLen ∧ (∀ k, k < m → L k ≤ maxLen) ∧ (a = none → m = 0 ∧ c = 0) ∧ (∀ k, k < m → A k = none → Cp k = 0) ∧
      Rd W a m (fun k => .slice (A k) (L k) (Cp k)) ∧ ∀ k, k < m → Rd W (A k) (L k) (fun j => .int .i64 (R k j)) := by
  rcases Deep.open_int_rows Try.underlying27 Try.underlying28 Try.underlying3 Try.cells28 Try.cells3 h with ⟨hcs, _⟩ | ⟨y, l, cp, A, L, Cp, Z, hcs, _, hl, hm, _, hcell⟩
  · simp [Value.cells] at hcs
    obtain ⟨rfl, rfl, rfl⟩ := hcs
    exact ⟨fun _ => none, fun _ => 0, fun _ => 0, fun _ _ => 0, Nat.zero_le _, by omega, fun _ => ⟨rfl, rfl⟩, by omega, ⟨0, 0, by omega, by omega⟩, by omega⟩
  · simp [Value.cells] at hcs
    obtain ⟨rfl, rfl, rfl⟩ := hcs
    refine ⟨A, L, Cp, fun k j => (Z k).getD j 0, by omega, fun k hk => ?_, fun e => by simp at e, fun k hk e => ?_, rd_of_add fun i hi => (hcell i (by omega)).1, fun k hk => ?_⟩
    · have := hcell k (by omega); omega
    · exact (hcell k (by omega)).2.2.2.2.2.1 e
    · obtain ⟨_, h1, h2, _, _, h5, h6⟩ := hcell k (by omega)
      cases hA : A k with
      | none =>
        have := h5 hA
        have h0 : L k = 0 := by omega
        rw [h0]; exact ⟨0, 0, by omega, by omega⟩
      | some a' => exact rd_of_add fun i hi => (h6 a' hA).2 i (by omega)

end
end Go.Proofs.Qxb6612369a
