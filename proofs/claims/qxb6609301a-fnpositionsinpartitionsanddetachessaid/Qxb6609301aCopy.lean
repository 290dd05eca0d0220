import Derived.Test.Qxb6609301aRun
import Derived.Laws.CopyOwn
namespace Go.Proofs.Qxb6609301a
open Go.RowKit

/-- 'copy(zzc, xs)', zzc a whole row that the call has made, as long as xs: the row then reads as xs did. -/
theorem wpList_copy_rd {P : Program} {w : World} {ops : Array Oper} {rest : List Oper} {o : Oper} {a : Act} {Q : Exit → Act → World → Prop} (hgd : o.guard = none) (d s : Operand) (dT sT : TypeId)
    (ho : o.op = .call { callee := .builtin .copy, args := #[d, s], argTypes := #[dT, sT] }) (elem : TypeId) (hu : P.underlying dT = some (.slice elem)) (hsz : (P.info? elem).map (·.size) = some 1)
    (sp : Option Addr) (n sCap g : Nat) (hd : a.eval d = .slice (some ⟨g, 0, none⟩) n n) (hs : a.eval s = .slice sp n sCap)
    (t : TypeId) (f0 f : Nat → Value) (hrow : w.rowIs g t n f0) (hrd : Rd w sp n f) (h1 : ∀ i, i < n → (f i).oneCell' = true) (B : Nat) (hBg : B ≤ g)
    (h : ∀ w', Below B w w' → w'.heap.size = w.heap.size → w'.rowIs g t n f → wpList P ops Q rest (a.put o.dst (goInt n)) w') :
    wpList P ops Q (o :: rest) a w := by
  by_cases h0 : n = 0
  · subst h0
    refine wpList_copy_nothing hgd d s dT sT ho elem hu hsz _ _ _ _ _ _ hd hs (by rfl) ?_
    exact h w (Below.refl _ _) rfl (hrow.congr fun i hi => absurd hi (Nat.not_lt_zero _))
  · obtain ⟨b, oo, rfl, hbl, hc⟩ := hrd.one (by omega)
    obtain ⟨cur, hg, hn, _⟩ := hrow
    have hlen : ((List.range n).map f).length = n := by simp
    refine wpList_copy_own hgd d s dT sT ho elem hu hsz g 0 n n ⟨b, oo, none⟩ n sCap hd hs cur t hg ((List.range n).map f) (by simp) (fun j v hj => ?_) (by simp [hn]) (fun v hv => ?_) ?_
    · obtain ⟨i, hi, rfl⟩ : ∃ i, i < n ∧ v = f j := by
        simp only [List.getElem?_map, Option.map_eq_some_iff] at hj
        obtain ⟨i, hi, rfl⟩ := hj
        rw [List.getElem?_eq_some_iff] at hi
        obtain ⟨hlt, hi⟩ := hi
        simp at hi hlt
        subst hi
        exact ⟨j, hlt, rfl⟩
      have hjn : j < n := by
        rw [List.getElem?_eq_some_iff] at hj
        obtain ⟨hlt, _⟩ := hj
        simpa using hlt
      have := hc j hjn
      by_cases e : j = 0
      · subst e; simpa [Addr.add] using this
      · simpa [Addr.add, e] using this
    · simp only [List.mem_map, List.mem_range] at hv
      obtain ⟨i, hi, rfl⟩ := hv
      exact h1 i hi
    · rw [hlen]
      have hcs : (cur.toList.take 0 ++ ((List.range n).map f ++ cur.toList.drop (0 + n))) = (List.range n).map f := by
        rw [List.drop_eq_nil_of_le (by simp [hn])]; simp
      rw [hcs]
      refine h _ (below_setRow (Below.refl _ _) hBg _) (by simp [World.setRow]) ?_
      refine ⟨_, setRow_heap w g _ _ t _ hg, by simp, fun i hi => by simp [hi]⟩

end Go.Proofs.Qxb6609301a
