import Derived.Test.Qxb6612369aBase
namespace Go.Proofs.Qxb6612369a
open Go.RowKit

/-- 'out = append(out, u)', one cell an element, out the call's own. -/
theorem wpList_append_one {P : Program} {w : World} {ops : Array Oper} {rest : List Oper} {o : Oper} {a : Act} {Q : Exit → Act → World → Prop} (hgd : o.guard = none) (s x : Operand) (t : TypeId)
    (ho : o.op = .call { callee := .builtin .append, args := #[s, x], argTypes := #[t, t] })
    (base : Nat) (e : TypeId) (z : Value) (bytes : Nat) (ht : P.underlying t = some (.slice e)) (hinfo : (P.info? e).map (fun i => (i.zero, i.size, i.bytes)) = some (some z, 1, bytes)) (hzs : z.cells.size = 1)
    (v : Value) (n : Nat) (xs : List Value) (hs : a.eval s = v) (hown : w.ownsRow base e 1 v n xs)
    (g : Nat) (u : Value) (hx : a.eval x = .slice (some ⟨g, 0, none⟩) 1 1) (hu : w.cell? ⟨g, 0, none⟩ = some u) (h1 : u.oneCell' = true)
    (h63 : n + 1 ≤ maxLen) (hbytes : (n + 1) * bytes ≤ 140737488355328) (hbase : base ≤ w.heap.size) (B : Nat) (hB : B ≤ base)
    (h : ∀ v' w', w'.ownsRow base e 1 v' (n + 1) (xs ++ [u]) → Below B w w' → wpList P ops Q rest (a.put o.dst v') w') : wpList P ops Q (o :: rest) a w := by
  obtain ⟨i, hi, hz0, hz1, hz2⟩ := info_parts hinfo
  refine wpList_append_own w hgd s x t ho base e i z 1 bytes ht hi hz0 hz1 hz2 hzs (by decide) v n xs hs hown ⟨g, 0, none⟩ 1 1 [u] hx rfl (fun j y hj => ?_) (fun y hy => ?_) h63 hbytes hbase fun v' w' h2 h3 _ => ?_
  · match j, hj with
    | 0, hj => simp at hj; subst hj; simpa [Addr.add] using hu
  · simp at hy; subst hy; exact h1
  · refine h v' w' h2 ((Below.refl _ _).grown h3 (by omega) fun k hk => ?_)
    rcases hown.2 with ⟨rfl, _⟩ | ⟨g', cap, cur, rfl, hg, _⟩
    · simp [Value.ownBlock] at hk
    · simp [Value.ownBlock] at hk; omega

/-- What the call owns is kept where all its blocks are. -/
theorem ownsRow_below {w w' : World} {base : Nat} {e : TypeId} {size : Nat} {v : Value} {n : Nat} {xs : List Value} {B : Nat} (h : w.ownsRow base e size v n xs) (hb : Below B w w') (hB : w.heap.size ≤ B) : w'.ownsRow base e size v n xs := by
  obtain ⟨hl, h⟩ := h
  refine ⟨hl, ?_⟩
  rcases h with h | ⟨g, cap, cur, rfl, hg, hh, hr⟩
  · exact .inl h
  · obtain ⟨hlt, _⟩ := Array.getElem?_eq_some_iff.1 hh
    exact .inr ⟨g, cap, cur, rfl, hg, by rw [hb.block g (by omega)]; exact hh, hr⟩

/-- What the call owns, by the index. -/
theorem ownsRow_rd {w : World} {base : Nat} {e : TypeId} {v : Value} {n : Nat} {xs : List Value} (h : w.ownsRow base e 1 v n xs) :
    ∃ a cap, v = .slice a n cap ∧ Rd w a n (fun j => xs.getD j undef) := by
  obtain ⟨hl, h⟩ := h
  rcases h with ⟨rfl, rfl⟩ | ⟨g, cap, cur, rfl, hg, hb, hcap, _, hsz, hxs⟩
  · exact ⟨none, 0, rfl, 0, 0, by omega, by omega⟩
  · refine ⟨_, cap, rfl, g, 0, fun _ => rfl, fun i hi => ?_⟩
    rw [Nat.zero_add]
    simp only [World.cell?, hb]
    subst hxs
    have hlt : i < cur.size := by omega
    simp [hlt, hi, List.getD_eq_getElem?_getD]

end Go.Proofs.Qxb6612369a
