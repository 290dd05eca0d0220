/-
  Rows of memory as this seat's walks read them, and small plain facts.
-/
import Derived.Test.Qxb6612369aRows
import Derived.WalkKit
import Derived.ProofKit
import Derived.Deep.LoopGhost
import Derived.Deep.OwnRows
import Derived.Deep.Light
import Derived.WalkLawsBesides
namespace Go.Proofs.Qxb6612369a
open Go.RowKit

/-- The slice at 'a', of n elements of one cell each, reads 'f i' at index i. -/
def Rd (w : World) (a : Option Addr) (n : Nat) (f : Nat → Value) : Prop :=
  ∃ b o, (0 < n → a = some ⟨b, o, none⟩) ∧ ∀ i, i < n → w.cell? ⟨b, o + i, none⟩ = some (f i)

theorem Rd.below {w w' : World} {B : Nat} {a : Option Addr} {n : Nat} {f : Nat → Value} (h : Rd w a n f) (hb : Below B w w') (hB : w.heap.size ≤ B) : Rd w' a n f := by
  obtain ⟨b, o, h1, h2⟩ := h
  refine ⟨b, o, h1, fun i hi => ?_⟩
  have hlt : b < w.heap.size := World.block_lt_of_cell? _ _ (h2 i hi)
  rw [hb.cell (p := ⟨b, o + i, none⟩) (by show b < B; omega)]
  exact h2 i hi

theorem Rd.congr {w : World} {a : Option Addr} {n : Nat} {f g : Nat → Value} (h : Rd w a n f) (e : ∀ i, i < n → f i = g i) : Rd w a n g := by
  obtain ⟨b, o, h1, h2⟩ := h
  exact ⟨b, o, h1, fun i hi => by rw [h2 i hi, e i hi]⟩

theorem Rd.ofRow {w : World} {b : Nat} {t : TypeId} {n : Nat} {f : Nat → Value} (h : w.rowIs b t n f) : Rd w (some ⟨b, 0, none⟩) n f :=
  ⟨b, 0, fun _ => rfl, fun i hi => by rw [Nat.zero_add]; exact h.cell hi⟩

theorem Rd.one {w : World} {a : Option Addr} {n : Nat} {f : Nat → Value} (h : Rd w a n f) (hn : 0 < n) : ∃ b o, a = some ⟨b, o, none⟩ ∧ b < w.heap.size ∧ ∀ i, i < n → w.cell? ⟨b, o + i, none⟩ = some (f i) := by
  obtain ⟨b, o, h1, h2⟩ := h
  exact ⟨b, o, h1 hn, World.block_lt_of_cell? _ _ (h2 0 hn), h2⟩

theorem ret_int {k : IntKind} {a b : Int} (h : a = b) : Ending.returned (.int k a) = .returned (.int k b) := by rw [h]
theorem ret_bool {a b : Bool} (h : a = b) : Ending.returned (.bool a) = .returned (.bool b) := by rw [h]

/-- The call came back with a bool; where it is true, p holds. -/
def SomeBool (p : Prop) (e : Ending) : Prop := ∃ b, e = .returned (.bool b) ∧ (b = true → p)
theorem SomeBool.no {p : Prop} : SomeBool p (.returned (.bool false)) := ⟨false, rfl, fun h => by cases h⟩
theorem SomeBool.yes {p : Prop} (h : p) : SomeBool p (.returned (.bool true)) := ⟨true, rfl, fun _ => h⟩

/-- The lengths of the first k strings, summed. -/
def sumLen (S : Nat → ByteArray) : Nat → Nat
  | 0 => 0
  | k + 1 => sumLen S k + (S k).size

theorem sumLen_mono (S : Nat → ByteArray) {j k : Nat} (h : j ≤ k) : sumLen S j ≤ sumLen S k := by
  induction k with
  | zero => obtain rfl : j = 0 := by omega
            exact Nat.le_refl _
  | succ k ih =>
    by_cases e : j = k + 1
    · subst e; exact Nat.le_refl _
    · have := ih (by omega)
      simp only [sumLen]; omega

theorem sumLen_at (S : Nat → ByteArray) {j k : Nat} (h : j < k) : sumLen S j + (S j).size ≤ sumLen S k := sumLen_mono S (j := j + 1) h

end Go.Proofs.Qxb6612369a
