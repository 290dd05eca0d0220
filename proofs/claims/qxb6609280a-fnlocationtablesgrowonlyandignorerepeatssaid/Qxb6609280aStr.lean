import Derived.Test.Qxb6609280aBd
import Derived.Lib.ConvBytes
import Derived.Deep.CutRange
import Derived.Deep.LoopGhost
namespace Go.Proofs.Qxb6609280a
open Go.RowKit Go.Maps

section
variable {α : Type} [DecidableEq α] {K E : TypeId} {q : IntKind} {kv : α → Value} {off b : Nat} {L : List α} {w : World}

theorem MapIs.hit (h : MapIs K E q kv off w b L) (law : Keyed Try.prog K) {t : TypeId} (ht : Try.prog.underlying t = some (.map K E)) (he : Try.prog.underlying E = some (.int q)) (hz : (zeroValue E).run Try.prog w = .ok (.int q 0) w)
    {y : α} (hkey : ∃ kl, keyOf Try.prog K (kv y) = some kl) (hin : y ∈ L) : (Instr.lookup t (.map (some b)) (kv y) true).run Try.prog w = .ok (.tuple #[.int q ((off + L.idxOf y : Nat) : Int), .bool true]) w := by
  obtain ⟨D, hown, _, hh⟩ := h
  obtain ⟨kl, hk⟩ := hkey
  obtain ⟨v, ps, hrun, hv⟩ := hown.look_ok law ht hz (plainElem_int he (by cases q <;> decide)) hk
  obtain ⟨c, rfl, hc, _⟩ := plainElem_int_inv he hv
  obtain ⟨h1, h2⟩ := hh y kl hk
  have h3 := congrArg Prod.fst hc
  simp only at h3
  rw [h2 hin] at h3
  rw [hrun, h1, decide_eq_true hin]
  cases h3
  rfl

theorem MapIs.miss (h : MapIs K E q kv off w b L) (law : Keyed Try.prog K) {t : TypeId} (ht : Try.prog.underlying t = some (.map K E)) (he : Try.prog.underlying E = some (.int q)) (hz : (zeroValue E).run Try.prog w = .ok (.int q 0) w)
    {y : α} (hkey : ∃ kl, keyOf Try.prog K (kv y) = some kl) (hn : y ∉ L) : (Instr.lookup t (.map (some b)) (kv y) true).run Try.prog w = .ok (.tuple #[.int q 0, .bool false]) w := by
  obtain ⟨D, hown, _, hh⟩ := h
  obtain ⟨kl, hk⟩ := hkey
  obtain ⟨v, ps, hrun, hv⟩ := hown.look_ok law ht hz (plainElem_int he (by cases q <;> decide)) hk
  obtain ⟨c, rfl, hc, _⟩ := plainElem_int_inv he hv
  obtain ⟨h1, _⟩ := hh y kl hk
  rw [decide_eq_false hn] at h1
  have h3 := congrArg Prod.fst hc
  simp only at h3
  rw [Maps.atKey_of_not_has h1] at h3
  rw [hrun, h1]
  cases h3
  rfl

theorem MapIs.len (h : MapIs K E q kv off w b L) {t : TypeId} (ht : Try.prog.underlying t = some (.map K E)) (ty : TypeId) : (Builtin.len_ #[t] ty #[.map (some b)]).run Try.prog w = .ok (.int .i64 (L.length : Nat)) w := by
  obtain ⟨D, hown, hs, _⟩ := h
  rw [hown.len ht ty, hs]

theorem MapIs.put_run (h : MapIs K E q kv off w b L) (law : Keyed Try.prog K) {t : TypeId} (ht : Try.prog.underlying t = some (.map K E)) (he : Try.prog.underlying E = some (.int q)) (inj : ∀ x y, kv x = kv y → x = y) {y : α}
    (hwf : (Lit.int q ((off + L.length : Nat) : Int)).wf = true) (hl : L.length < maxLen) (hkey : ∃ kl, keyOf Try.prog K (kv y) = some kl) (hn : y ∉ L) :
    ∃ w', (Instr.mapUpdate t (.map (some b)) (kv y) (.int q ((off + L.length : Nat) : Int))).run Try.prog w = .ok () w' ∧ w.grownBy w' (some b) ∧ MapIs K E q kv off w' b (L ++ [y]) := by
  obtain ⟨D, hown, hs, hh⟩ := h
  obtain ⟨kl, hk⟩ := hkey
  obtain ⟨w', hrun, hown', hgr⟩ := hown.update law ht hl hk (plainElem_int he hwf)
  exact ⟨w', hrun, hgr, MapIs.put (w := w) law inj hown hs hh hk hn hown'⟩

/-- 'm[k] = v' at the operation, the key new -/
theorem wpList_put_is {ops : Array Oper} {rest : List Oper} {o : Oper} {a : Act} {Q : Exit → Act → World → Prop} (hg : o.guard = none) (m x v : Operand) (t : TypeId) (hop : o.op = Op.mapUpdate t m x v) (law : Keyed Try.prog K)
    (ht : Try.prog.underlying t = some (.map K E)) (he : Try.prog.underlying E = some (.int q)) (inj : ∀ x y, kv x = kv y → x = y) (h : MapIs K E q kv off w b L) (hm : a.eval m = .map (some b)) (y : α) (hx : a.eval x = kv y) (hv : a.eval v = .int q ((off + L.length : Nat) : Int))
    (hwf : (Lit.int q ((off + L.length : Nat) : Int)).wf = true) (hl : L.length < maxLen) (hkey : ∃ kl, keyOf Try.prog K (kv y) = some kl) (hn : y ∉ L)
    (hK : ∀ w', w.grownBy w' (some b) → MapIs K E q kv off w' b (L ++ [y]) → wpList Try.prog ops Q rest (a.put o.dst undef) w') : wpList Try.prog ops Q (o :: rest) a w := by
  obtain ⟨D, hown, hs, hh⟩ := h
  obtain ⟨kl, hk⟩ := hkey
  refine wpList_mapUpdate_own w hg m x v t hop K E law ht _ b L.length D hm hown hl (kv y) _ kl hx hv hk _ [] (plainElem_int he hwf) ?_
  intro w' hown' hgr
  exact hK w' hgr (MapIs.put (w := w) law inj hown hs hh hk hn hown')

end

theorem zero2 (w : World) : (zeroValue 2).run Try.prog w = .ok (.int .i64 0) w := by kernel_rfl
theorem zero28 (w : World) : (zeroValue 28).run Try.prog w = .ok (.int .u64 0) w := by kernel_rfl

section
variable {w : World} {p : Nat} {F : Nat → Prop} {σ : St} {bs bf bl : Nat} {sv fv lv : Value}
theorem Parts.c2 (h : Parts w p F σ bs bf bl sv fv lv) : w.cell? ⟨p, 2, none⟩ = some (.map (some bs)) := by simp [World.cell?, h.obj, bdCells]
theorem Parts.c3 (h : Parts w p F σ bs bf bl sv fv lv) : w.cell? ⟨p, 3, none⟩ = some (.map (some bf)) := by simp [World.cell?, h.obj, bdCells]
theorem Parts.c4 (h : Parts w p F σ bs bf bl sv fv lv) : w.cell? ⟨p, 4, none⟩ = some (.map (some bl)) := by simp [World.cell?, h.obj, bdCells]
theorem Parts.c5 (h : Parts w p F σ bs bf bl sv fv lv) : w.cell? ⟨p, 5, none⟩ = some sv := by simp [World.cell?, h.obj, bdCells]
theorem Parts.c6 (h : Parts w p F σ bs bf bl sv fv lv) : w.cell? ⟨p, 6, none⟩ = some fv := by simp [World.cell?, h.obj, bdCells]
theorem Parts.c7 (h : Parts w p F σ bs bf bl sv fv lv) : w.cell? ⟨p, 7, none⟩ = some lv := by simp [World.cell?, h.obj, bdCells]
theorem Parts.fz (h : Parts w p F σ bs bf bl sv fv lv) (i : Nat) : w.frozen? ⟨p, i, none⟩ = false := by simp [World.frozen?, h.obj]
end

/-- how a call on the builder ends -/
structure Left (w : World) (p : Nat) (F : Nat → Prop) (σ : St) (w' : World) : Prop where
  bd : Bd w' p (ext F w w') σ
  kp : Kp F w w'

theorem Left.refl {w : World} {p : Nat} {F : Nat → Prop} {σ : St} (h : Bd w p F σ) : Left w p F σ w := by
  obtain ⟨bs, bf, bl, sv, fv, lv, h⟩ := h
  exact ⟨⟨bs, bf, bl, sv, fv, lv, h.mono (fun _ hk => .inl hk) (fun k hk => hk.elim (h.lt k) (·.2))⟩, Kp.refl _ _⟩

theorem Kp.and {F : Nat → Prop} {w w1 w2 : World} (h : Kp F w w1) (k : Kp F w1 w2) : Kp F w w2 := h.trans k (fun _ hg => .inl hg)

theorem Left.of {w W : World} {p : Nat} {F G : Nat → Prop} {σ : St} {bs bf bl : Nat} {sv fv lv : Value} (h : Parts W p G σ bs bf bl sv fv lv) (hG : ∀ k, G k → F k ∨ w.heap.size ≤ k) (hF : ∀ k, F k → k < w.heap.size) (K : Kp F w W) : Left w p F σ W :=
  ⟨⟨bs, bf, bl, sv, fv, lv, h.mono (fun k hk => (hG k hk).imp id (fun h1 => ⟨h1, h.lt k hk⟩)) (fun k hk => hk.elim (fun h1 => Nat.lt_of_lt_of_le (hF k h1) K.size) (·.2))⟩, K⟩

theorem strSt_in {σ : St} {s : Bs} (h : s ∈ σ.strs) : strSt σ s = σ := if_pos h
theorem strSt_out {σ : St} {s : Bs} (h : s ∉ σ.strs) : strSt σ s = { σ with strs := σ.strs ++ [s], st := ab 6 s.s.data.toList σ.st } := if_neg h

theorem Row.shape {w : World} {v : Value} {b : List UInt8} (h : Row w v b) : ∃ a n c, v = .slice a n c := by
  rcases h.2 with ⟨rfl, _⟩ | ⟨g, cap, cur, rfl, _⟩
  · exact ⟨_, _, _, rfl⟩
  · exact ⟨_, _, _, rfl⟩

theorem bytes_len (s : ByteArray) : s.data.toList.length = s.size := by rw [Array.length_toList]; rfl

theorem src_bytes (w : World) (s : ByteArray) : Src (Lib.bytesWorld w 5 s) w.heap.size s.data.toList := by
  refine ⟨by rw [Lib.bytesWorld_size]; omega, fun j u hj => ?_⟩
  rw [cell_add]
  obtain ⟨hlt, hj'⟩ := List.getElem?_eq_some_iff.1 hj
  simp only [Lib.byteCells, List.length_map] at hlt
  rw [Lib.bytesWorld_cell w 5 s j (by simpa using hlt), ← hj']
  have hlt2 : j < s.data.size := by simpa using hlt
  simp [Lib.byteCells, List.getD]
  rw [Array.getElem?_eq_getElem hlt2]
  rfl

theorem grown_bytes (w : World) (s : ByteArray) : w.grownBy (Lib.bytesWorld w 5 s) none :=
  ⟨rfl, rfl, rfl, by rw [Lib.bytesWorld_size]; omega, fun k hk _ => Lib.bytesWorld_at_old w 5 s k hk⟩

set_option maxHeartbeats 8000000 in
set_option maxRecDepth 100000 in
theorem str29 (p : Nat) (F : Nat → Prop) (σ : St) (s : Bs) (w : World) (hB : Bd w p F σ) (hs : s.s.size ≤ 1048576) (hl : σ.strs.length ≤ 1099511627776) (ht : σ.st.length ≤ 1099511627776) :
    Calls Try.prog 29 #[.pointer (some ⟨p, 0, none⟩), .string s.s] w fun e w' => e = .returned (.int .i64 (strId σ s : Nat)) ∧ Left w p F (strSt σ s) w' := by
  have hL := Left.refl hB
  obtain ⟨bs, bf, bl, sv, fv, lv, hP⟩ := hB
  have hmx : s.s.size ≤ maxLen := by unfold maxLen; omega
  have c2 := hP.c2
  by_cases hin : s ∈ σ.strs
  · have hlk := hP.ms.hit law9 Try.underlying45 Try.underlying2 (zero2 w) (key9 hmx) hin
    simp only [Bs.val, Nat.zero_add] at hlk
    rw [strSt_in hin]
    clear hP
    go_enter Try.func29, Try.ntmps29
    go_wp2
    go_ret
    exact ⟨rfl, hL⟩
  · have hlk := hP.ms.miss law9 Try.underlying45 Try.underlying2 (zero2 w) (key9 hmx) hin
    have hln := hP.ms.len Try.underlying45 3
    have hms := hP.ms
    simp only [Bs.val] at hlk
    have hid : strId σ s = σ.strs.length := List.idxOf_eq_length hin
    rw [hid]
    clear hL
    go_enter Try.func29, Try.ntmps29
    go_upto_region 6 with (at_mapUpdate; refine wpList_put_is rfl _ _ _ 45 rfl law9 Try.underlying45 Try.underlying2 (fun _ _ => Bs.val_inj) hms rfl s rfl (by rw [Nat.zero_add]; rfl) (wf_i64 (by omega) (by omega)) (by unfold maxLen; omega) (key9 hmx) hin ?_; intro w1 hg1 hm1)
    have P1 := hP.putS hg1 hm1
    have K1 : Kp F w w1 := Kp.grown hg1 (fun k e => by cases e; exact .inl hP.fbs)
    have HF : Hid (∀ k, F k → k < w.heap.size) := hP.lt
    clear hlk hln hms c2 hg1 hm1 hP
    have P2 := P1.same (w' := Lib.bytesWorld w1 5 s.s) (grown_bytes w1 s.s).size (fun k hk => Lib.bytesWorld_at_old w1 5 s.s k (P1.lt k hk))
    have K2 : Kp F w1 (Lib.bytesWorld w1 5 s.s) := Kp.grown (grown_bytes w1 s.s) (fun k e => by cases e)
    have c5 := P1.c5
    have hconv : ∀ w, (convert 9 36 (.string s.s)).run Try.prog w = .ok (.slice (some ⟨w.heap.size, 0, none⟩) s.s.size (grownCap w s.s.size 0 5)) (Lib.bytesWorld w 5 s.s) := fun w => Lib.run_convert_string_bytes w 9 36 5 s.s Try.underlying9 Try.underlying36 Try.underlying5
    have c27 := appendBytes27 6 (.inr (.inr (.inr (.inr (.inr rfl))))) s.s.data.toList w1.heap.size (grownCap w1 s.s.size 0 5) sv σ.st (Lib.bytesWorld w1 5 s.s) P2.rs (src_bytes w1 s.s) (fun e => by have := P1.lt _ (P1.os _ e.symm); omega) (by rw [bytes_len]; omega)
    rw [bytes_len] at c27
    go_wp2_with fail
    refine c27.mono ?_
    rintro e w3 ⟨v3, rfl, hA⟩
    obtain ⟨a3, n3, k3, rfl⟩ := hA.row.shape
    have P3 := P2.tabS hA
    have h6 := (tab_facts (i := 5) P2 P2.os ⟨_, P2.rs⟩ hA).2.2.2.2.2
    have hz : w3.frozen? ⟨p, 5, none⟩ = false := by simp [World.frozen?, h6, P2.obj]
    have hc : w3.cell? ⟨p, 5, none⟩ = some sv := by simp [World.cell?, h6, P2.obj, bdCells]
    have K3 : Kp F w (w3.setCell ⟨p, 5, none⟩ (.slice a3 n3 k3)) := ((K1.and K2).and (Kp.grown hA.grown (fun k e => .inl (P2.os k e)))).and (Kp.setCell _ _ P2.fp)
    have hlt : ∀ k, F k → k < w.heap.size := HF.out
    have hLf : Left w p F (strSt σ s) (w3.setCell ⟨p, 5, none⟩ (.slice a3 n3 k3)) := by
      rw [strSt_out hin]
      refine Left.of P3 (fun k hk => hk.imp id (fun h => ?_)) hlt K3
      have h1 := K1.size; have h2 := K2.size
      omega
    clear P1 P2 P3 K1 K2 K3 hA h6 c27 hconv c5 hlt
    go_wp2
    go_ret
    exact ⟨rfl, hLf⟩

end Go.Proofs.Qxb6609280a
