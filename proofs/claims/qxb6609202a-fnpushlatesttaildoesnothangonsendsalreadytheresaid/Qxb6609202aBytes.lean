import Derived.Test.Qxb6609202aPush
import Derived.Laws.CopyOwn
namespace Go.Proofs.Qxb6609202a
open Go.RowKit

def IsBool (e : Ending) : Prop := e = .returned (.bool true) ∨ e = .returned (.bool false)
theorem IsBool.yes : IsBool (.returned (.bool true)) := .inl rfl
theorem IsBool.no : IsBool (.returned (.bool false)) := .inr rfl
theorem IsBool.out {e : Ending} (h : IsBool e) : ∃ b, e = .returned (.bool b) := by
  rcases h with h | h
  · exact ⟨_, h⟩
  · exact ⟨_, h⟩

set_option maxRecDepth 100000 in
set_option maxHeartbeats 1000000 in
theorem bytes4 (p : Int) (a1 a2 a3 a4 : Option Addr) (l1 l2 l3 l4 c1 c2 c3 c4 : Nat) (s t : Int) (w : World) (h1 : l1 ≤ maxLen) (h2 : l2 ≤ maxLen) (h3 : l3 ≤ maxLen) (h4 : l4 ≤ maxLen) :
    Calls Try.prog 4 #[.int .i64 p, .slice a1 l1 c1, .slice a2 l2 c2, .slice a3 l3 c3, .slice a4 l4 c4, .int .u64 s, .int .u64 t] w fun e w' => IsBool e ∧ w' = w := by
  unfold maxLen at h1 h2 h3 h4
  go_enter Try.func4, Try.ntmps4
  go_wp2
  all_goals go_ret
  all_goals first | exact ⟨.yes, rfl⟩ | exact ⟨.no, rfl⟩

/-- 'copy(zzc, xs)', zzc a whole row that the call has made, as long as xs: the row then reads as xs did. -/
theorem wpList_copy_rd {P : Program} {w : World} {ops : Array Oper} {rest : List Oper} {o : Oper} {a : Act} {Q : Exit → Act → World → Prop} (hgd : o.guard = none) (d s : Operand) (dT sT : TypeId)
    (ho : o.op = .call { callee := .builtin .copy, args := #[d, s], argTypes := #[dT, sT] }) (elem : TypeId) (hu : P.underlying dT = some (.slice elem)) (hsz : (P.info? elem).map (·.size) = some 1)
    (sp : Option Addr) (n sCap g : Nat) (hd : a.eval d = .slice (some ⟨g, 0, none⟩) n n) (hs : a.eval s = .slice sp n sCap)
    (t : TypeId) (f0 f : Nat → Value) (hrow : w.rowIs g t n f0) (hrd : Rd w sp n f) (h1 : ∀ i, i < n → (f i).oneCell' = true) (B : Nat) (hBg : B ≤ g)
    (h : ∀ w', Below B w w' → w'.heap.size = w.heap.size → w'.rowIs g t n f → wpList P ops Q rest (a.put o.dst (goInt n)) w') :
    wpList P ops Q (o :: rest) a w := by
  by_cases h0 : n = 0
  · subst h0
    refine wpList_copy_nothing hgd d s dT sT ho elem hu hsz _ _ _ _ _ _ hd hs (by rfl) ?_
    exact h w (Below.refl _ _) rfl (hrow.congr fun i hi => absurd hi (Nat.not_lt_zero _))
  · obtain ⟨b, oo, rfl, hbl, hc⟩ := hrd.one (by omega)
    obtain ⟨cur, hg, hn, _⟩ := hrow
    have hlen : ((List.range n).map f).length = n := by simp
    refine wpList_copy_own hgd d s dT sT ho elem hu hsz g 0 n n ⟨b, oo, none⟩ n sCap hd hs cur t hg ((List.range n).map f) (by simp) (fun j v hj => ?_) (by simp [hn]) (fun v hv => ?_) ?_
    · obtain ⟨i, hi, rfl⟩ : ∃ i, i < n ∧ v = f j := by
        simp only [List.getElem?_map, Option.map_eq_some_iff] at hj
        obtain ⟨i, hi, rfl⟩ := hj
        rw [List.getElem?_eq_some_iff] at hi
        obtain ⟨hlt, hi⟩ := hi
        simp at hi hlt
        subst hi
        exact ⟨j, hlt, rfl⟩
      have hjn : j < n := by
        rw [List.getElem?_eq_some_iff] at hj
        obtain ⟨hlt, _⟩ := hj
        simpa using hlt
      have := hc j hjn
      by_cases e : j = 0
      · subst e; simpa [Addr.add] using this
      · simpa [Addr.add, e] using this
    · simp only [List.mem_map, List.mem_range] at hv
      obtain ⟨i, hi, rfl⟩ := hv
      exact h1 i hi
    · rw [hlen]
      have hcs : (cur.toList.take 0 ++ ((List.range n).map f ++ cur.toList.drop (0 + n))) = (List.range n).map f := by
        rw [List.drop_eq_nil_of_le (by simp [hn])]; simp
      rw [hcs]
      refine h _ (below_setRow (Below.refl _ _) hBg _) (by simp [World.setRow]) ?_
      refine ⟨_, setRow_heap w g _ _ t _ hg, by simp, fun i hi => by simp [hi]⟩

end Go.Proofs.Qxb6609202a
