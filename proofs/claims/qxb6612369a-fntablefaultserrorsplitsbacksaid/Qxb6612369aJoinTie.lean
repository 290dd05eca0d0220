import Derived.Test.Qxb6612369aFaults
import Derived.Test.Qxb6612369aShelf
namespace Go.Proofs.Qxb6612369a
open Go.RowKit

theorem joinSaid : JoinSaid := by
  intro bk n S w hc hbk hn hl
  have h := Try.strings_Join bk 0 n ((List.range n).map S) ⟨#[59, 32]⟩ w (fun j x hx => by
      rw [List.getElem?_map, Option.map_eq_some_iff] at hx
      obtain ⟨i, hi, rfl⟩ := hx
      rw [List.getElem?_eq_some_iff] at hi
      obtain ⟨hlt, hi⟩ := hi
      simp at hi hlt
      subst hi
      rw [Nat.zero_add]
      exact hc j hlt) hbk (by simp; omega) (by simp) (by simpa [jn, List.map_map, Function.comp_def] using hl)
  have e : Lib.join (((List.range n).map S).map (·.data.toList)) [59, 32] = jn S n := by simp [jn, List.map_map, Function.comp_def]
  rw [e] at h
  simpa using h

end Go.Proofs.Qxb6612369a
