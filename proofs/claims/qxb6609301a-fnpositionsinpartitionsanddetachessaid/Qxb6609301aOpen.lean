import Derived.Test.Qxb6609301aBin
import Derived.Deep.Strs
namespace Go.Proofs.Qxb6609301a

theorem Try.cells9 : Try.prog.cellsOf 9 = 1 := by kernel_rfl

theorem rd_of_add {w : World} {a : Addr} {n : Nat} {f : Nat → Value} (h : ∀ i, i < n → w.cell? (a.add i) = some (f i)) : Rd w (some a) n f := by
  by_cases h0 : n = 0
  · subst h0; exact ⟨0, 0, by omega, by omega⟩
  · obtain ⟨b, o, sp⟩ := a
    have h1 := h 0 (by omega)
    cases sp with
    | some k =>
      exfalso
      simp only [Addr.add, if_pos, World.cell?] at h1
      split at h1 <;> simp at h1
    | none =>
      refine ⟨b, o, fun _ => rfl, fun i hi => ?_⟩
      have := h i hi
      by_cases e : i = 0
      · subst e; simpa [Addr.add] using this
      · simpa [Addr.add, e] using this

theorem openStrs {H : Type} {enc : TypeId × Value → H} {W : World} {fuel : Nat} {a : Option Addr} {n c : Nat} {x : DataW H × List MemPlace} (h : DataW.trod enc Try.prog W 0 (fun _ => true) true fuel 22 (Value.slice a n c).cells.toList = some x) :
    ∃ S : Nat → ByteArray, n ≤ maxLen ∧ Rd W a n (fun i => .string (S i)) ∧ ∀ i, i < n → (S i).size ≤ maxLen := by
  rcases Deep.open_strs Try.underlying22 Try.underlying9 Try.cells9 h with ⟨hcs, _⟩ | ⟨y, l, cp, m, S, hcs, _, hl, hm, hmm, _, hcell⟩
  · simp [Value.cells] at hcs
    obtain ⟨rfl, rfl, rfl⟩ := hcs
    exact ⟨fun _ => ⟨#[]⟩, Nat.zero_le _, ⟨0, 0, by omega, by omega⟩, by omega⟩
  · simp [Value.cells] at hcs
    obtain ⟨rfl, rfl, rfl⟩ := hcs
    simp only [if_true] at hmm
    exact ⟨S, by omega, rd_of_add fun i hi => (hcell i (by omega)).1, fun i hi => (hcell i (by omega)).2⟩

end Go.Proofs.Qxb6609301a
