import Derived.Test.Qxb6609202aTarget
namespace Go.Proofs.Qxb6609202a
open Go.RowKit

/-- The slice at 'a', of n elements of one cell each, reads 'f i' at index i. -/
def Rd (w : World) (a : Option Addr) (n : Nat) (f : Nat → Value) : Prop :=
  ∃ b o, (0 < n → a = some ⟨b, o, none⟩) ∧ ∀ i, i < n → w.cell? ⟨b, o + i, none⟩ = some (f i)

theorem Rd.below {w w' : World} {B : Nat} {a : Option Addr} {n : Nat} {f : Nat → Value} (h : Rd w a n f) (hb : Below B w w') (hB : w.heap.size ≤ B) : Rd w' a n f := by
  obtain ⟨b, o, h1, h2⟩ := h
  refine ⟨b, o, h1, fun i hi => ?_⟩
  have hlt : b < w.heap.size := World.block_lt_of_cell? _ _ (h2 i hi)
  rw [hb.cell (p := ⟨b, o + i, none⟩) (by show b < B; omega)]
  exact h2 i hi

theorem Rd.congr {w : World} {a : Option Addr} {n : Nat} {f g : Nat → Value} (h : Rd w a n f) (e : ∀ i, i < n → f i = g i) : Rd w a n g := by
  obtain ⟨b, o, h1, h2⟩ := h
  exact ⟨b, o, h1, fun i hi => by rw [h2 i hi, e i hi]⟩

theorem Rd.ofRow {w : World} {b : Nat} {t : TypeId} {n : Nat} {f : Nat → Value} (h : w.rowIs b t n f) : Rd w (some ⟨b, 0, none⟩) n f :=
  ⟨b, 0, fun _ => rfl, fun i hi => by rw [Nat.zero_add]; exact h.cell hi⟩

theorem Rd.one {w : World} {a : Option Addr} {n : Nat} {f : Nat → Value} (h : Rd w a n f) (hn : 0 < n) : ∃ b o, a = some ⟨b, o, none⟩ ∧ b < w.heap.size ∧ ∀ i, i < n → w.cell? ⟨b, o + i, none⟩ = some (f i) := by
  obtain ⟨b, o, h1, h2⟩ := h
  exact ⟨b, o, h1 hn, World.block_lt_of_cell? _ _ (h2 0 hn), h2⟩

/-- of the blocks below B only block b may have turned -/
structure KeptB (b B : Nat) (w w' : World) : Prop where
  os : w'.os = w.os
  tape : w'.tape = w.tape
  output : w'.output = w.output
  size : w.heap.size ≤ w'.heap.size
  block : ∀ k, k < B → k ≠ b → w'.heap[k]? = w.heap[k]?

theorem KeptB.refl (b B : Nat) (w : World) : KeptB b B w w := ⟨rfl, rfl, rfl, Nat.le_refl _, fun _ _ _ => rfl⟩
theorem KeptB.trans {b B : Nat} {x y z : World} (h : KeptB b B x y) (k : KeptB b B y z) : KeptB b B x z :=
  ⟨k.os.trans h.os, k.tape.trans h.tape, k.output.trans h.output, Nat.le_trans h.size k.size, fun i hi hb => (k.block i hi hb).trans (h.block i hi hb)⟩
theorem KeptB.ofBelow {b B : Nat} {x y : World} (h : Below B x y) : KeptB b B x y := ⟨h.os, h.tape, h.output, h.size, fun k hk _ => h.block k hk⟩
theorem KeptB.ofOnly {b B : Nat} {x y : World} (h : OnlyAt b x y) : KeptB b B x y := ⟨h.os, h.tape, h.output, Nat.le_of_eq h.size.symm, fun k _ hb => h.block k hb⟩
theorem KeptB.mono {b B B' : Nat} {x y : World} (h : KeptB b B x y) (hB : B' ≤ B) : KeptB b B' x y := ⟨h.os, h.tape, h.output, h.size, fun k hk hb => h.block k (by omega) hb⟩
theorem KeptB.cell {b B : Nat} {x y : World} (h : KeptB b B x y) {p : Addr} (hp : p.block < B) (hb : p.block ≠ b) : y.cell? p = x.cell? p := World.cell?_of_block (w := x) (h.block _ hp hb)
theorem KeptB.below {b B B' : Nat} {x y : World} (h : KeptB b B x y) (hB : B' ≤ B) (hb : B' ≤ b) : Below B' x y := ⟨h.os, h.tape, h.output, h.size, fun k hk => h.block k (by omega) (by omega)⟩

/-- a cell that holds something else than an unsigned word lies in no PCG -/
theorem pcg_ne {w : World} {b h l : Nat} (hp : PcgAt w b h l) {p : Addr} {v : Value} (hc : w.cell? p = some v) (hv : ∀ z, v ≠ .int .u64 z) : p.block ≠ b := by
  intro e
  obtain ⟨c, hb, hn, hcell⟩ := hp
  obtain ⟨pb, po, ps⟩ := p
  simp only at e
  subst e
  simp only [World.cell?, hb] at hc
  split at hc
  · simp at hc
  · have hlt : po < 2 := by
      rw [Array.getElem?_eq_some_iff] at hc
      obtain ⟨q, _⟩ := hc
      omega
    rw [hcell po hlt] at hc
    simp only [Option.some.injEq] at hc
    split at hc
    · exact hv _ hc.symm
    · exact hv _ hc.symm

/-- what has been pushed behind the first k peers, and the generator's state -/
def pushTo (D : Nat → Nat → Nat × Nat × Nat) (La : Nat → Int) (h l : Nat) : Nat → List (Nat × Int) × Nat × Nat
  | 0 => ([], h, l)
  | k + 1 => if 0 ≤ La k then ((pushTo D La h l k).1 ++ [(tg (D (pushTo D La h l k).2.1 (pushTo D La h l k).2.2).1 k, La k)], (D (pushTo D La h l k).2.1 (pushTo D La h l k).2.2).2.1, (D (pushTo D La h l k).2.1 (pushTo D La h l k).2.2).2.2) else pushTo D La h l k

def sendCells (xs : List (Nat × Int)) : List Value := xs.flatMap fun x => [.int .i64 (x.1 : Nat), .int .i64 x.2, .int .i64 (-1)]

theorem pushTo_length (D : Nat → Nat → Nat × Nat × Nat) (La : Nat → Int) (h l k : Nat) : (pushTo D La h l k).1.length ≤ k := by
  induction k with
  | zero => simp [pushTo]
  | succ k ih =>
    simp only [pushTo]
    split
    · simp; omega
    · omega

theorem Try.info35 : (Try.prog.info? 35).map (fun i => (i.zero, i.size, i.bytes)) = some (some (.agg #[.int .i64 0, .int .i64 0, .int .i64 0]), 3, 24) := by kernel_rfl

theorem ownsRow_keptB {w w' : World} {base : Nat} {e : TypeId} {size : Nat} {v : Value} {n : Nat} {xs : List Value} {b : Nat} (h : w.ownsRow base e size v n xs) (hb : OnlyAt b w w') (hbb : b < base) : w'.ownsRow base e size v n xs := by
  obtain ⟨hl, h⟩ := h
  refine ⟨hl, ?_⟩
  rcases h with h | ⟨g, cap, cur, rfl, hg, hh, hr⟩
  · exact .inl h
  · exact .inr ⟨g, cap, cur, rfl, hg, by rw [hb.block g (by omega)]; exact hh, hr⟩

/-- 'out = append(out, s)', s a struct of three cells, out the call's own. -/
theorem wpList_append_three {P : Program} {w : World} {ops : Array Oper} {rest : List Oper} {o : Oper} {a : Act} {Q : Exit → Act → World → Prop} (hgd : o.guard = none) (s x : Operand) (t : TypeId)
    (ho : o.op = .call { callee := .builtin .append, args := #[s, x], argTypes := #[t, t] })
    (base : Nat) (e : TypeId) (z : Value) (bytes : Nat) (ht : P.underlying t = some (.slice e)) (hinfo : (P.info? e).map (fun i => (i.zero, i.size, i.bytes)) = some (some z, 3, bytes)) (hzs : z.cells.size = 3)
    (v : Value) (n : Nat) (xs : List Value) (hs : a.eval s = v) (hown : w.ownsRow base e 3 v n xs)
    (g : Nat) (u0 u1 u2 : Value) (hx : a.eval x = .slice (some ⟨g, 0, none⟩) 1 1) (hu0 : w.cell? ⟨g, 0, none⟩ = some u0) (hu1 : w.cell? ⟨g, 1, none⟩ = some u1) (hu2 : w.cell? ⟨g, 2, none⟩ = some u2) (h1 : u0.oneCell' = true ∧ u1.oneCell' = true ∧ u2.oneCell' = true)
    (h63 : n + 1 ≤ maxLen) (hbytes : (n + 1) * bytes ≤ 140737488355328) (hbase : base ≤ w.heap.size)
    (h : ∀ v' w', w'.ownsRow base e 3 v' (n + 1) (xs ++ [u0, u1, u2]) → Below base w w' → wpList P ops Q rest (a.put o.dst v') w') : wpList P ops Q (o :: rest) a w := by
  obtain ⟨i, hi, hz0, hz1, hz2⟩ := info_parts hinfo
  refine wpList_append_own w hgd s x t ho base e i z 3 bytes ht hi hz0 hz1 hz2 hzs (by decide) v n xs hs hown ⟨g, 0, none⟩ 1 1 [u0, u1, u2] hx rfl (fun j y hj => ?_) (fun y hy => ?_) h63 hbytes hbase fun v' w' h2 h3 _ => ?_
  · match j, hj with
    | 0, hj => simp at hj; subst hj; simpa [Addr.add] using hu0
    | 1, hj => simp at hj; subst hj; simpa [Addr.add] using hu1
    | 2, hj => simp at hj; subst hj; simpa [Addr.add] using hu2
  · simp at hy; rcases hy with rfl | rfl | rfl
    · exact h1.1
    · exact h1.2.1
    · exact h1.2.2
  · refine h v' w' h2 ((Below.refl _ _).grown h3 (by omega) fun k hk => ?_)
    rcases hown.2 with ⟨rfl, _⟩ | ⟨g', cap, cur, rfl, hg, _⟩
    · simp [Value.ownBlock] at hk
    · simp [Value.ownBlock] at hk; omega

set_option maxRecDepth 100000 in
set_option maxHeartbeats 2000000 in
theorem push7 (pb rb b h l n base : Nat) (la : Option Addr) (lc N : Nat) (La : Nat → Int) (D : Nat → Nat → Nat × Nat × Nat) (v : Value) (m : Nat) (xs : List Value) (w : World) (hN : N = n + 1) (h1 : 1 ≤ n) (h2 : n ≤ 32768) (hm : m ≤ 32768) (hl : l < 18446744073709551616)
    (hD : ∀ h l, DrawIs n h l (D h l).1 (D h l).2.1 (D h l).2.2) (hr : RandAt w rb b) (hp : PcgAt w b h l)
    (c0 : w.cell? ⟨pb, 0, none⟩ = some (.int .i64 ((n : Int) + 1))) (c3 : w.cell? ⟨pb, 3, none⟩ = some (.slice la N lc)) (hla : Rd w la N (fun i => .int .i64 (La i)))
    (hbase : base ≤ w.heap.size) (bpb : pb < base) (brb : rb < base) (bb : b < base) (bla : ∀ x o s, la = some ⟨x, o, s⟩ → x < base) (hown : w.ownsRow base 35 3 v m xs) :
    Calls Try.prog 7 #[.pointer (some ⟨pb, 0, none⟩), v, .pointer (some ⟨rb, 0, none⟩)] w fun e w' => ∃ v', e = .returned v' ∧ w'.ownsRow base 35 3 v' (m + (pushTo D La h l N).1.length) (xs ++ sendCells (pushTo D La h l N).1) ∧ KeptB b base w w' := by
  have hN1 : N ≤ n + 1 := by omega
  have hN2 : n + 1 ≤ N := by omega
  clear hN
  go_enter Try.func7, Try.ntmps7
  go_wp2
  go_loopg [1, 7] N (fun g v1 i wr => ∃ (k H L len : Nat) (ys : List Value), k ≤ N ∧ g = N - k ∧ i = .int .i64 k ∧ L < 18446744073709551616 ∧ len ≤ 32768 + k ∧ PcgAt wr b H L ∧ wr.ownsRow base 35 3 v1 len ys ∧ KeptB b base w wr ∧ base ≤ wr.heap.size ∧
    Hid ((pushTo D La h l k).2 = (H, L) ∧ len = m + (pushTo D La h l k).1.length ∧ ys = xs ++ sendCells (pushTo D La h l k).1))
  case atStart => exact ⟨0, h, l, m, xs, Nat.zero_le _, rfl, rfl, hl, by omega, hp, hown, KeptB.refl _ _ _, hbase, rfl, rfl, by simp [pushTo, sendCells]⟩
  case round =>
    obtain ⟨k, H, L, len, ys, hk, rfl, rfl, hL, hlen, hp1, hown1, hk1, hb1, hE⟩ := hrel
    have n1 := pcg_ne hp c0 (fun z => by simp)
    have n3 := pcg_ne hp c3 (fun z => by simp)
    have nr := pcg_ne hp hr (fun z => by simp)
    have d0 : wr.cell? ⟨pb, 0, none⟩ = some (.int .i64 ((n : Int) + 1)) := by rw [hk1.cell (p := ⟨pb, 0, none⟩) bpb n1]; exact c0
    have d3 : wr.cell? ⟨pb, 3, none⟩ = some (.slice la N lc) := by rw [hk1.cell (p := ⟨pb, 3, none⟩) bpb n3]; exact c3
    by_cases hlt : k < N
    · obtain ⟨b2, o2, rfl, hbl2, hc2⟩ := hla.one (by omega)
      have e2 := hc2 k hlt
      have hb2 := bla b2 o2 none rfl
      have n2 := pcg_ne hp e2 (fun z => by simp)
      have e2' : wr.cell? ⟨b2, o2 + k, none⟩ = some (.int .i64 (La k)) := by rw [hk1.cell (p := ⟨b2, o2 + k, none⟩) hb2 n2]; exact e2
      have hra : RandAt wr rb b := by unfold RandAt; rw [hk1.cell (p := ⟨rb, 0, none⟩) brb nr]; exact hr
      have hkn : (k : Int) < (n : Int) + 1 := by omega
      have hst : pushTo D La h l (k + 1) = if 0 ≤ La k then ((pushTo D La h l k).1 ++ [(tg (D H L).1 k, La k)], (D H L).2.1, (D H L).2.2) else pushTo D La h l k := by
        have e1 : (pushTo D La h l k).2.1 = H := by rw [hE.out.1]
        have e3 : (pushTo D La h l k).2.2 = L := by rw [hE.out.1]
        rw [pushTo, e1, e3]
      clear hc2 e2 c0 c3 hr hp hla bla n1 n3 hown
      by_cases hc : 0 ≤ La k
      · rw [if_pos hc] at hst
        have c10 := target10 pb k rb b H L n (D H L).1 (D H L).2.1 (D H L).2.2 wr nr h1 (by omega) hL hra hp1 (hD H L) d0
        have hbd := (draw_bd h1 (hD H L)).2.2
        have HS : Hid (pushTo D La h l (k + 1) = ((pushTo D La h l k).1 ++ [(tg (D H L).1 k, La k)], (D H L).2.1, (D H L).2.2)) := hst
        generalize tg (D H L).1 k = t at HS c10
        generalize (D H L).2.1 = H2 at HS c10
        generalize (D H L).2.2 = L2 at HS c10 hbd
        clear hst
        go_wp2_with fail
        refine c10.mono ?_
        rintro e w1 ⟨rfl, hp2, ho2⟩
        have hown2 := ownsRow_keptB hown1 ho2 bb
        have hsz2 : base ≤ w1.heap.size := by rw [ho2.size]; exact hb1
        clear c10 hown1
        go_wp2_with (at_builtin; refine wpList_append_three rfl (.tmp 26) (.tmp 33) 33 rfl base 35 (.agg #[.int .i64 0, .int .i64 0, .int .i64 0]) 24 Try.underlying33 Try.info35 rfl _ _ _ rfl (hown2.alloc _) w1.heap.size (.int .i64 t) (.int .i64 (La k)) (.int .i64 (-1)) rfl ?d0 ?d1 ?d2 ⟨rfl, rfl, rfl⟩ ?d3 ?d4 ?d5 ?_)
        case d0 => simp
        case d1 => simp
        case d2 => simp
        case d3 => unfold maxLen; omega
        case d4 => omega
        case d5 => simp; omega
        intro v' w2 hown3 hb3
        have hk3 : KeptB b base w w2 := (hk1.trans (KeptB.ofOnly ho2)).trans (KeptB.ofBelow (((Below.refl _ _).alloc hsz2 _).trans hb3))
        have hp3 : PcgAt w2 b H2 L2 := hp2.of_block ((((Below.refl base w1).alloc hsz2 _).trans hb3).block b bb)
        have hsz3 : base ≤ w2.heap.size := by have := hb3.size; simp at this; omega
        clear hown2 hp2 hb3
        go_wp2
        go_roundg (N - (k + 1))
        case measure => go_light; omega
        case rel =>
          go_light
          refine ⟨k + 1, H2, L2, len + 1, _, by omega, rfl, by go_num, hbd, by omega, hp3, hown3, hk3, hsz3, ?_, ?_, ?_⟩
          · rw [HS.out]
          · rw [HS.out, hE.out.2.1]; simp; omega
          · rw [HS.out, hE.out.2.2]; simp [sendCells]
      · rw [if_neg hc] at hst
        have HS : Hid (pushTo D La h l (k + 1) = pushTo D La h l k) := hst
        clear hst
        have hc' : ¬ (0 ≤ La k) := hc
        go_wp2
        go_roundg (N - (k + 1))
        case measure => go_light; omega
        case rel => go_light; exact ⟨k + 1, H, L, len, ys, by omega, rfl, by go_num, hL, by omega, hp1, hown1, hk1, hb1, by rw [HS.out]; exact hE.out.1, by rw [HS.out]; exact hE.out.2.1, by rw [HS.out]; exact hE.out.2.2⟩
    · obtain rfl : N = k := by omega
      have hkn : ¬ ((N : Int) < (n : Int) + 1) := by omega
      clear hla
      go_wp2
      go_ret
      exact ⟨_, rfl, by have e1 := hE.out.2.1; have e2 := hE.out.2.2; rw [e1, e2] at hown1; exact hown1, hk1⟩

end Go.Proofs.Qxb6609202a
