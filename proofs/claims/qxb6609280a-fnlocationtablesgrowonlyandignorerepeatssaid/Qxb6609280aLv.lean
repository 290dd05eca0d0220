import Derived.Test.Qxb6609280aPlain
namespace Go.Proofs.Qxb6609280a
open Go.RowKit Go.Maps

theorem Firsts.same {w w' : World} {v : Value} {L : List Fr} {n : Nat} {Fs : Nat → Fr} (h : Firsts w v L n Fs) (hb : ∀ k, v.ownBlock = some k → w'.heap[k]? = w.heap[k]?) : Firsts w' v L n Fs := by
  obtain ⟨J, h1, h2, h3⟩ := h
  refine ⟨J, h1, ⟨h2.1, ?_⟩, h3⟩
  rcases h2.2 with h0 | ⟨g, cap, cur, rfl, a1, a2, a3⟩
  · exact .inl h0
  · exact .inr ⟨g, cap, cur, rfl, a1, by rw [hb g rfl]; exact a2, a3⟩

theorem Firsts.lt {w : World} {v : Value} {L : List Fr} {n : Nat} {Fs : Nat → Fr} (h : Firsts w v L n Fs) {k : Nat} (hk : v.ownBlock = some k) : k < w.heap.size := by
  obtain ⟨J, h1, h2, h3⟩ := h
  exact (h2.lt k hk).2

theorem Firsts.nil (w : World) (n : Nat) (Fs : Nat → Fr) : Firsts w (.slice none 0 0) [] n Fs := ⟨[], rfl, World.ownsRow_nil w 0 3 1, fun _ hk => absurd hk (Nat.not_lt_zero _)⟩

/-- the three builders and the firsts, each apart from the others -/
structure Lv (w0 W : World) (pf pp po : Nat) (Ff Fp Fo : Nat → Prop) (σf σp σo : St) (v : Value) (L : List Fr) (n : Nat) (Fs : Nat → Fr) : Prop where
  bel : Below w0.heap.size w0 W
  bf : Bd W pf Ff σf
  bp : Bd W pp Fp σp
  bo : Bd W po Fo σo
  hf : ∀ k, Ff k → w0.heap.size ≤ k
  hp : ∀ k, Fp k → w0.heap.size ≤ k
  ho : ∀ k, Fo k → w0.heap.size ≤ k
  d1 : ∀ k, Ff k → ¬ Fp k
  d2 : ∀ k, Ff k → ¬ Fo k
  d3 : ∀ k, Fp k → ¬ Fo k
  fi : Firsts W v L n Fs
  vi : ∀ k, v.ownBlock = some k → w0.heap.size ≤ k ∧ ¬ Ff k ∧ ¬ Fp k ∧ ¬ Fo k

theorem below_kp {w0 W W' : World} {F : Nat → Prop} (h : Below w0.heap.size w0 W) (k : Kp F W W') (hF : ∀ k, F k → w0.heap.size ≤ k) : Below w0.heap.size w0 W' :=
  ⟨k.os.trans h.os, k.tape.trans h.tape, k.output.trans h.output, Nat.le_trans h.size k.size, fun j hj => by
    rw [k.block j (Nat.lt_of_lt_of_le hj h.size) (fun hg => by have := hF j hg; omega), h.block j hj]⟩

section
variable {w0 W W' : World} {pf pp po : Nat} {Ff Fp Fo : Nat → Prop} {σf σp σo σ' : St} {v v' : Value} {L L' : List Fr} {n : Nat} {Fs : Nat → Fr}

theorem Bd.kp {p : Nat} {F G : Nat → Prop} {σ : St} (h : Bd W p G σ) (k : Kp F W W') (hd : ∀ k, G k → ¬ F k) : Bd W' p G σ :=
  h.same k.size (fun j hj => k.block j (h.lt j hj) (hd j hj))

theorem Firsts.kp {F : Nat → Prop} (h : Firsts W v L n Fs) (k : Kp F W W') (hd : ∀ k, v.ownBlock = some k → ¬ F k) : Firsts W' v L n Fs :=
  h.same (fun j hj => k.block j (h.lt hj) (hd j hj))

theorem Lv.grow (h : Lv w0 W pf pp po Ff Fp Fo σf σp σo v L n Fs) (hg : W.grownBy W' none) : Lv w0 W' pf pp po Ff Fp Fo σf σp σo v L n Fs := by
  have k : Kp (fun _ => False) W W' := Kp.grown hg (fun _ e => by cases e)
  exact ⟨below_kp h.bel k (fun _ f => f.elim), h.bf.kp k (fun _ _ f => f), h.bp.kp k (fun _ _ f => f), h.bo.kp k (fun _ _ f => f), h.hf, h.hp, h.ho, h.d1, h.d2, h.d3, h.fi.kp k (fun _ _ f => f), h.vi⟩

theorem ext_ge {F : Nat → Prop} (h : ∀ k, F k → w0.heap.size ≤ k) (hs : w0.heap.size ≤ W.heap.size) : ∀ k, ext F W W' k → w0.heap.size ≤ k := fun k hk => hk.elim (h k) (fun h1 => by omega)

theorem Lv.full (h : Lv w0 W pf pp po Ff Fp Fo σf σp σo v L n Fs) (hL : Left W pf Ff σ' W') : Lv w0 W' pf pp po (ext Ff W W') Fp Fo σ' σp σo v L n Fs := by
  refine ⟨below_kp h.bel hL.kp h.hf, hL.bd, h.bp.kp hL.kp (fun k a b => h.d1 k b a), h.bo.kp hL.kp (fun k a b => h.d2 k b a), ext_ge h.hf h.bel.size, h.hp, h.ho, fun k hk hp => ?_, fun k hk hp => ?_, h.d3, h.fi.kp hL.kp (fun k hk => (h.vi k hk).2.1), fun k hk => ?_⟩
  · exact hk.elim (fun a => h.d1 k a hp) (fun a => by have := h.bp.lt k hp; omega)
  · exact hk.elim (fun a => h.d2 k a hp) (fun a => by have := h.bo.lt k hp; omega)
  · have := h.vi k hk
    exact ⟨this.1, fun he => he.elim this.2.1 (fun a => by have := h.fi.lt hk; omega), this.2.2⟩

theorem Lv.part (h : Lv w0 W pf pp po Ff Fp Fo σf σp σo v L n Fs) (hL : Left W pp Fp σ' W') : Lv w0 W' pf pp po Ff (ext Fp W W') Fo σf σ' σo v L n Fs := by
  refine ⟨below_kp h.bel hL.kp h.hp, h.bf.kp hL.kp h.d1, hL.bd, h.bo.kp hL.kp (fun k a b => h.d3 k b a), h.hf, ext_ge h.hp h.bel.size, h.ho, fun k hk hp => ?_, h.d2, fun k hk hp => ?_, h.fi.kp hL.kp (fun k hk => (h.vi k hk).2.2.1), fun k hk => ?_⟩
  · exact hp.elim (fun a => h.d1 k hk a) (fun a => by have := h.bf.lt k hk; omega)
  · exact hk.elim (fun a => h.d3 k a hp) (fun a => by have := h.bo.lt k hp; omega)
  · have := h.vi k hk
    exact ⟨this.1, this.2.1, fun he => he.elim this.2.2.1 (fun a => by have := h.fi.lt hk; omega), this.2.2.2⟩

theorem Lv.once (h : Lv w0 W pf pp po Ff Fp Fo σf σp σo v L n Fs) (hL : Left W po Fo σ' W') : Lv w0 W' pf pp po Ff Fp (ext Fo W W') σf σp σ' v L n Fs := by
  refine ⟨below_kp h.bel hL.kp h.ho, h.bf.kp hL.kp h.d2, h.bp.kp hL.kp h.d3, hL.bd, h.hf, h.hp, ext_ge h.ho h.bel.size, h.d1, fun k hk hp => ?_, fun k hk hp => ?_, h.fi.kp hL.kp (fun k hk => (h.vi k hk).2.2.2), fun k hk => ?_⟩
  · exact hp.elim (fun a => h.d2 k hk a) (fun a => by have := h.bf.lt k hk; omega)
  · exact hp.elim (fun a => h.d3 k hk a) (fun a => by have := h.bp.lt k hk; omega)
  · have := h.vi k hk
    exact ⟨this.1, this.2.1, this.2.2.1, fun he => he.elim this.2.2.2 (fun a => by have := h.fi.lt hk; omega)⟩

theorem Lv.more (h : Lv w0 W pf pp po Ff Fp Fo σf σp σo v L n Fs) (hg : W.grownBy W' v.ownBlock) (hl : v'.ownBlock = v.ownBlock ∨ ∃ k, v'.ownBlock = some k ∧ W.heap.size ≤ k) (hfi : Firsts W' v' L' n Fs) : Lv w0 W' pf pp po Ff Fp Fo σf σp σo v' L' n Fs := by
  have k : Kp (fun k => v.ownBlock = some k) W W' := Kp.grown hg (fun _ e => .inl e)
  refine ⟨below_kp h.bel k (fun j e => (h.vi j e).1), h.bf.kp k (fun j a e => (h.vi j e).2.1 a), h.bp.kp k (fun j a e => (h.vi j e).2.2.1 a), h.bo.kp k (fun j a e => (h.vi j e).2.2.2 a), h.hf, h.hp, h.ho, h.d1, h.d2, h.d3, hfi, fun j hj => ?_⟩
  rcases hl with e | ⟨i, e, hi⟩
  · rw [e] at hj; exact h.vi j hj
  · rw [hj] at e; cases e
    have hs := h.bel.size
    exact ⟨by omega, fun a => by have := h.bf.lt _ a; omega, fun a => by have := h.bp.lt _ a; omega, fun a => by have := h.bo.lt _ a; omega⟩

end

theorem Try.info3 : (Try.prog.info? 3).map (fun i => (i.zero, i.size, i.bytes)) = some (some (.int .i64 0), 1, 8) := by kernel_rfl

/-- 'firsts = append(firsts, i)' -/
theorem wpList_first {w : World} {ops : Array Oper} {rest : List Oper} {o : Oper} {a : Act} {Q : Exit → Act → World → Prop} (hg : o.guard = none) (s x : Operand)
    (hop : o.op = Op.call { callee := Callee.builtin Builtin.append, args := #[s, x], argTypes := #[27, 27] }) (v : Value) (L : List Fr) (n : Nat) (Fs : Nat → Fr) (i : Nat) (hs : a.eval s = v) (hfi : Firsts w v L n Fs) (hx : a.eval x = .slice (some ⟨w.heap.size, 0, none⟩) 1 1) (hi : i < n) (hL : L.length ≤ 1024)
    (hK : ∀ a' c' w', Firsts w' (.slice a' (L.length + 1) c') (L ++ [Fs i]) n Fs → w.grownBy w' v.ownBlock → ((Value.slice a' (L.length + 1) c').ownBlock = v.ownBlock ∨ ∃ k, (Value.slice a' (L.length + 1) c').ownBlock = some k ∧ w.heap.size ≤ k) → wpList Try.prog ops Q rest (a.put o.dst (.slice a' (L.length + 1) c')) w') :
    wpList Try.prog ops Q (o :: rest) a (w.alloc (.cells #[.int .i64 (i : Int)] 3)) := by
  obtain ⟨i0, h0, hz0, hz1, hz2⟩ := info_parts Try.info3
  obtain ⟨J, h1, h2, h3⟩ := hfi
  refine wpList_append_own_at _ hg s x 27 hop 0 3 i0 (.int .i64 0) 1 8 Try.underlying27 h0 hz0 hz1 hz2 rfl (by decide) v _ _ hs (h2.alloc _) ⟨w.heap.size, 0, none⟩ 1 1 [.int .i64 (i : Int)] hx rfl (cell_one_new _ _ _) (by intro u hu; simp at hu; subst hu; rfl) (by unfold maxLen; omega) (by omega) (Nat.zero_le _) ?_
  intro v' w' hown hgr hnil hloc
  have hgr2 : w.grownBy w' v.ownBlock := grown_step (World.grownBy_alloc w _ v.ownBlock) hgr (.inl rfl)
  have hloc2 : v'.ownBlock = v.ownBlock ∨ ∃ k, v'.ownBlock = some k ∧ w.heap.size ≤ k := hloc.imp id (fun e => ⟨_, e, by simp⟩)
  have hF : Firsts w' v' (L ++ [Fs i]) n Fs := by
    refine ⟨J ++ [i], by simp [h1], by simpa using hown, fun k hk => ?_⟩
    rw [List.length_append, List.length_singleton] at hk
    by_cases e : k < L.length
    · have := h3 k e
      have hJ : (J ++ [i]).getD k 0 = J.getD k 0 := by simp [List.getD, List.getElem?_append_left (show k < J.length by omega)]
      rw [hJ, List.getElem?_append_left e]
      exact this
    · obtain rfl : k = L.length := by omega
      have hJ : (J ++ [i]).getD L.length 0 = i := by simp [List.getD, ← h1]
      rw [hJ]
      exact ⟨hi, by simp⟩
  rcases hown.2 with ⟨rfl, h5⟩ | ⟨g, cap, cur, rfl, _⟩
  · omega
  · rw [h1] at hF hloc2 ⊢
    exact hK _ _ _ hF hgr2 hloc2

end Go.Proofs.Qxb6609280a
