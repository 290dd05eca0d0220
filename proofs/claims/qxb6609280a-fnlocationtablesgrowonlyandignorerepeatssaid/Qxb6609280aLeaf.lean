import Derived.Test.Qxb6609280aLoc
import Derived.Deep.Light
namespace Go.Proofs.Qxb6609280a
open Go.RowKit Go.Maps

def SomeBool (p : Prop) (e : Ending) : Prop := (e = .returned (.bool true) ∧ p) ∨ e = .returned (.bool false)
theorem SomeBool.yes {p : Prop} (h : p) : SomeBool p (.returned (.bool true)) := .inl ⟨rfl, h⟩
theorem SomeBool.no {p : Prop} : SomeBool p (.returned (.bool false)) := .inr rfl
theorem SomeBool.out {p : Prop} {e : Ending} (h : SomeBool p e) : ∃ b, e = .returned (.bool b) ∧ (b = true → p) := by
  rcases h with ⟨h, hp⟩ | h
  · exact ⟨_, h, fun _ => hp⟩
  · exact ⟨_, h, by simp⟩

/-- the frames, as their slice reads -/
structure FrAt (w : World) (b o : Nat) (f : Fr) : Prop where
  c0 : w.cell? ⟨b, o, none⟩ = some (.int .u64 f.a)
  c1 : w.cell? ⟨b, o + 1, none⟩ = some (.string f.fn)
  c2 : w.cell? ⟨b, o + 2, none⟩ = some (.string f.fl)
  c3 : w.cell? ⟨b, o + 3, none⟩ = some (.int .i64 f.ln)

def RdF (w : World) (a : Option Addr) (n : Nat) (Fs : Nat → Fr) : Prop := ∃ b o, (0 < n → a = some ⟨b, o, none⟩) ∧ ∀ i, i < n → FrAt w b (o + i * 4) (Fs i)

theorem RdF.one {w : World} {a : Option Addr} {n : Nat} {Fs : Nat → Fr} (h : RdF w a n Fs) (hn : 0 < n) : ∃ b o, a = some ⟨b, o, none⟩ ∧ ∀ i, i < n → FrAt w b (o + i * 4) (Fs i) := by
  obtain ⟨b, o, h1, h2⟩ := h
  exact ⟨b, o, h1 hn, h2⟩

theorem FrAt.same {w w' : World} {b o : Nat} {f : Fr} (h : FrAt w b o f) (hb : w'.heap[b]? = w.heap[b]?) : FrAt w' b o f :=
  ⟨by rw [cell_heap hb]; exact h.c0, by rw [cell_heap hb]; exact h.c1, by rw [cell_heap hb]; exact h.c2, by rw [cell_heap hb]; exact h.c3⟩

theorem FrAt.lt {w : World} {b o : Nat} {f : Fr} (h : FrAt w b o f) : b < w.heap.size := World.block_lt_of_cell? _ _ h.c0

theorem RdF.below {w w' : World} {a : Option Addr} {n : Nat} {Fs : Nat → Fr} (h : RdF w a n Fs) (hb : ∀ k, k < w.heap.size → w'.heap[k]? = w.heap[k]?) : RdF w' a n Fs := by
  obtain ⟨b, o, h1, h2⟩ := h
  exact ⟨b, o, h1, fun i hi => (h2 i hi).same (hb b (h2 i hi).lt)⟩

theorem upto {p : Nat → Prop} {k : Nat} (h : ∀ x, x < k → p x) (hk : p k) : ∀ x, x < k + 1 → p x := fun x hx => by
  by_cases e : x = k
  · subst e; exact hk
  · exact h x (by omega)

def Sml (f : Fr) : Prop := f.fn.size ≤ 1048576 ∧ f.fl.size ≤ 1048576

set_option maxRecDepth 100000 in
set_option maxHeartbeats 4000000 in
theorem bytes6 (a : Option Addr) (n c : Nat) (Fs : Nat → Fr) (cut : Int) (w : World) (h1 : n ≤ maxLen) (hF : RdF w a n Fs) (sF : ∀ i, i < n → (Fs i).Ok) :
    Calls Try.prog 6 #[.slice a n c, .int .i64 cut] w fun e w' => SomeBool (∀ i, i < n → Sml (Fs i)) e ∧ w' = w := by
  unfold maxLen at h1
  go_enter Try.func6, Try.ntmps6
  by_cases p1 : 1048576 < n
  · go_wp2
    go_ret
    exact ⟨.no, rfl⟩
  go_wp2
  go_loop [5, 6] (fun t i => ∃ (k : Nat) (z : Int), k ≤ n ∧ Hid (∀ x, x < k → Sml (Fs x)) ∧ i = .int .i64 k ∧ t = .int .i64 z) (fun _ i => n - (intOf i).toNat)
  case atStart => exact ⟨0, _, Nat.zero_le _, fun x hx => by omega, rfl, rfl⟩
  case round =>
    obtain ⟨k, z, hk, HS, rfl, rfl⟩ := hrel
    by_cases hlt : k < n
    · obtain ⟨b, o, rfl, hc⟩ := hF.one (by omega)
      obtain ⟨x0, x1, x2, x3⟩ := hc k hlt
      have m1 := (sF k hlt).fn
      have m2 := (sF k hlt).fl
      unfold maxLen at m1 m2
      clear hc hF sF x0 x3
      go_wp2
      · go_ret
        exact ⟨.no, rfl⟩
      · go_ret
        exact ⟨.no, rfl⟩
      · go_ret
        exact ⟨.no, rfl⟩
      · go_ret
        exact ⟨.no, rfl⟩
      · go_round
        case rel => exact ⟨k + 1, _, by omega, upto HS.out ⟨by omega, by omega⟩, by go_num, rfl⟩
        case measure => simp [intOf]; omega
    · obtain rfl : k = n := by omega
      have hkn : ¬ ((k : Int) < k) := by omega
      clear hF sF
      go_wp2
      go_ret
      exact ⟨.yes HS.out, rfl⟩

end Go.Proofs.Qxb6609280a
