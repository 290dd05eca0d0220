import Derived.Test.Qxb6609280aMap
import Derived.Laws.Rows
namespace Go.Proofs.Qxb6609280a
open Go.RowKit Go.Maps

/-! ### the builder, plainly -/
structure St where
  strs : List Bs
  funs : List Fn
  locs : List Fr
  st : List UInt8
  fm : List UInt8
  lm : List UInt8

def St.empty : St := ⟨[], [], [], [], [], []⟩

noncomputable section
def strId (σ : St) (s : Bs) : Nat := σ.strs.idxOf s
def strSt (σ : St) (s : Bs) : St := if s ∈ σ.strs then σ else { σ with strs := σ.strs ++ [s], st := ab 6 s.s.data.toList σ.st }
def funMsg (id nm fl : Nat) : List UInt8 := au 4 fl (au 3 nm (au 2 nm (au 1 id [])))
def funId (σ : St) (f : Fn) : Nat := 1 + σ.funs.idxOf f
def addFun (σ : St) (f : Fn) : St := { σ with funs := σ.funs ++ [f] }
def funSt (σ : St) (f : Fn) : St :=
  if f ∈ σ.funs then σ else
    { strSt (strSt (addFun σ f) ⟨f.nm⟩) ⟨f.fl⟩ with fm := ab 5 (funMsg (1 + σ.funs.length) (strId (addFun σ f) ⟨f.nm⟩) (strId (strSt (addFun σ f) ⟨f.nm⟩) ⟨f.fl⟩)) (strSt (strSt (addFun σ f) ⟨f.nm⟩) ⟨f.fl⟩).fm }
def lineMsg (fid : Nat) (ln : Int) : List UInt8 := au 2 (u64 ln) (au 1 fid [])
def locMsg (id : Nat) (f : Fr) (line : List UInt8) : List UInt8 := ab 4 line (au 3 f.a (au 2 1 (au 1 id [])))
def locId (σ : St) (f : Fr) : Nat := 1 + σ.locs.idxOf f
def addLoc (σ : St) (f : Fr) : St := { σ with locs := σ.locs ++ [f] }
def locSt (σ : St) (f : Fr) : St :=
  if f ∈ σ.locs then σ else
    { funSt (addLoc σ f) ⟨f.fn, f.fl⟩ with lm := ab 4 (locMsg (1 + σ.locs.length) f (lineMsg (funId (addLoc σ f) ⟨f.fn, f.fl⟩) f.ln)) (funSt (addLoc σ f) ⟨f.fn, f.fl⟩).lm }
end

/-! ### the builder in memory -/
def bdCells (bs bf bl : Nat) (sv fv lv : Value) : Array Value := #[.slice none 0 0, .slice none 0 0, .map (some bs), .map (some bf), .map (some bl), sv, fv, lv, .slice none 0 0]

structure Parts (w : World) (p : Nat) (F : Nat → Prop) (σ : St) (bs bf bl : Nat) (sv fv lv : Value) : Prop where
  obj : w.heap[p]? = some (.cells (bdCells bs bf bl sv fv lv) 49 (0, 0))
  fp : F p
  fbs : F bs
  fbf : F bf
  fbl : F bl
  d1 : bs ≠ bf
  d2 : bs ≠ bl
  d3 : bf ≠ bl
  ms : MapIs 9 2 .i64 Bs.val 0 w bs σ.strs
  mf : MapIs 55 28 .u64 fnV 1 w bf σ.funs
  ml : MapIs 31 28 .u64 Fr.val 1 w bl σ.locs
  rs : Row w sv σ.st
  rf : Row w fv σ.fm
  rl : Row w lv σ.lm
  os : ∀ k, sv.ownBlock = some k → F k
  of : ∀ k, fv.ownBlock = some k → F k
  ol : ∀ k, lv.ownBlock = some k → F k
  a1 : ∀ k, sv.ownBlock = some k → fv.ownBlock ≠ some k
  a2 : ∀ k, sv.ownBlock = some k → lv.ownBlock ≠ some k
  a3 : ∀ k, fv.ownBlock = some k → lv.ownBlock ≠ some k
  lt : ∀ k, F k → k < w.heap.size

def Bd (w : World) (p : Nat) (F : Nat → Prop) (σ : St) : Prop := ∃ bs bf bl sv fv lv, Parts w p F σ bs bf bl sv fv lv

/-- all but F's blocks stand -/
structure Kp (F : Nat → Prop) (w w' : World) : Prop where
  os : w'.os = w.os
  tape : w'.tape = w.tape
  output : w'.output = w.output
  size : w.heap.size ≤ w'.heap.size
  block : ∀ k, k < w.heap.size → ¬ F k → w'.heap[k]? = w.heap[k]?

def ext (F : Nat → Prop) (w w' : World) (k : Nat) : Prop := F k ∨ (w.heap.size ≤ k ∧ k < w'.heap.size)

theorem Kp.refl (F : Nat → Prop) (w : World) : Kp F w w := ⟨rfl, rfl, rfl, Nat.le_refl _, fun _ _ _ => rfl⟩

theorem Kp.trans {F G : Nat → Prop} {w w1 w2 : World} (h : Kp F w w1) (k : Kp G w1 w2) (hG : ∀ k, G k → F k ∨ w.heap.size ≤ k) : Kp F w w2 :=
  ⟨k.os.trans h.os, k.tape.trans h.tape, k.output.trans h.output, Nat.le_trans h.size k.size, fun j hj hn => by
    rw [k.block j (Nat.lt_of_lt_of_le hj h.size) (fun hg => by rcases hG j hg with h1 | h1; exact hn h1; omega), h.block j hj hn]⟩

theorem Kp.ext {F : Nat → Prop} {w w1 w2 : World} (h : Kp F w w1) (k : Kp (ext F w w1) w1 w2) : Kp F w w2 := h.trans k (fun _ hg => hg.imp id (·.1))

theorem Kp.grown {F : Nat → Prop} {w w' : World} {r : Option Nat} (h : w.grownBy w' r) (hr : ∀ k, r = some k → F k ∨ w.heap.size ≤ k) : Kp F w w' :=
  ⟨h.os, h.tape, h.output, h.size, fun k hk hn => h.block k hk (fun e => by rcases hr k e.symm with h1 | h1; exact hn h1; omega)⟩

theorem Kp.alloc (F : Nat → Prop) (w : World) (o : Obj) : Kp F w (w.alloc o) := Kp.grown (World.grownBy_alloc w o none) (fun _ h => by cases h)

theorem Kp.setCell {F : Nat → Prop} {w : World} (a : Addr) (v : Value) (hF : F a.block) : Kp F w (w.setCell a v) :=
  ⟨rfl, rfl, rfl, by simp, fun k _ hn => heap_setCell_other w a k v (fun e => hn (e ▸ hF))⟩

theorem ext_ext {F : Nat → Prop} {w w1 w2 : World} (h1 : w.heap.size ≤ w1.heap.size) (h2 : w1.heap.size ≤ w2.heap.size) {k : Nat} (h : ext (ext F w w1) w1 w2 k) : ext F w w2 k := by
  rcases h with (h | ⟨h, h'⟩) | ⟨h, h'⟩
  · exact .inl h
  · exact .inr ⟨h, by omega⟩
  · exact .inr ⟨by omega, h'⟩

theorem Row.same {w w' : World} {v : Value} {b : List UInt8} (h : Row w v b) (hb : ∀ k, v.ownBlock = some k → w'.heap[k]? = w.heap[k]?) : Row w' v b := by
  refine ⟨h.1, ?_⟩
  rcases h.2 with h0 | ⟨g, cap, cur, rfl, h1, h2, h3⟩
  · exact .inl h0
  · exact .inr ⟨g, cap, cur, rfl, h1, by rw [hb g rfl]; exact h2, h3⟩

theorem Row.obj {w : World} {v : Value} {b : List UInt8} (h : Row w v b) {k : Nat} (hk : v.ownBlock = some k) : ∃ cur, w.heap[k]? = some (.cells cur 5 (0, 0)) := by
  rcases h.2 with ⟨rfl, _⟩ | ⟨g, cap, cur, rfl, _, h2, _⟩
  · cases hk
  · cases hk; exact ⟨cur, h2⟩

section
variable {w w' : World} {p : Nat} {F G : Nat → Prop} {σ : St} {bs bf bl : Nat} {sv fv lv : Value}

theorem Parts.mono (h : Parts w p F σ bs bf bl sv fv lv) (hG : ∀ k, F k → G k) (hl : ∀ k, G k → k < w.heap.size) : Parts w p G σ bs bf bl sv fv lv :=
  ⟨h.obj, hG _ h.fp, hG _ h.fbs, hG _ h.fbf, hG _ h.fbl, h.d1, h.d2, h.d3, h.ms, h.mf, h.ml, h.rs, h.rf, h.rl, fun k e => hG k (h.os k e), fun k e => hG k (h.of k e), fun k e => hG k (h.ol k e), h.a1, h.a2, h.a3, hl⟩

theorem Parts.same (h : Parts w p F σ bs bf bl sv fv lv) (hs : w.heap.size ≤ w'.heap.size) (hb : ∀ k, F k → w'.heap[k]? = w.heap[k]?) : Parts w' p F σ bs bf bl sv fv lv :=
  ⟨by rw [hb _ h.fp]; exact h.obj, h.fp, h.fbs, h.fbf, h.fbl, h.d1, h.d2, h.d3, h.ms.same (hb _ h.fbs), h.mf.same (hb _ h.fbf), h.ml.same (hb _ h.fbl), h.rs.same fun k e => hb k (h.os k e), h.rf.same fun k e => hb k (h.of k e), h.rl.same fun k e => hb k (h.ol k e),
    h.os, h.of, h.ol, h.a1, h.a2, h.a3, fun k hk => Nat.lt_of_lt_of_le (h.lt k hk) hs⟩

theorem Parts.pmap (h : Parts w p F σ bs bf bl sv fv lv) : p ≠ bs ∧ p ≠ bf ∧ p ≠ bl := by
  have ho := h.obj
  refine ⟨fun e => ?_, fun e => ?_, fun e => ?_⟩
  · obtain ⟨_, _, h1⟩ := h.ms.obj; rw [← e, ho] at h1; cases h1
  · obtain ⟨_, _, h1⟩ := h.mf.obj; rw [← e, ho] at h1; cases h1
  · obtain ⟨_, _, h1⟩ := h.ml.obj; rw [← e, ho] at h1; cases h1

theorem row_not_map {v : Value} {b : List UInt8} {m : Nat} {es : Array MapEntry} {c : Nat} (h : Row w v b) (hm : w.heap[m]? = some (.map es c)) {k : Nat} (hk : v.ownBlock = some k) : k ≠ m := by
  intro e; subst e
  obtain ⟨cur, h1⟩ := h.obj hk
  rw [h1] at hm; cases hm

theorem row_not_bd {v : Value} {b : List UInt8} {cs : Array Value} (h : Row w v b) (hm : w.heap[p]? = some (.cells cs 49 (0, 0))) {k : Nat} (hk : v.ownBlock = some k) : k ≠ p := by
  intro e; subst e
  obtain ⟨cur, h1⟩ := h.obj hk
  rw [h1] at hm; injection hm with hm; injection hm with _ h2; cases h2

/-- a key more among the strings -/
theorem Parts.putS (h : Parts w p F σ bs bf bl sv fv lv) (hg : w.grownBy w' (some bs)) {L : List Bs} (hm : MapIs 9 2 .i64 Bs.val 0 w' bs L) : Parts w' p F { σ with strs := L } bs bf bl sv fv lv := by
  obtain ⟨es, c, hb⟩ := h.ms.obj
  have hs : ∀ k, F k → k ≠ bs → w'.heap[k]? = w.heap[k]? := fun k hk hne => hg.block k (h.lt k hk) (fun e => hne (Option.some.inj e))
  exact ⟨by rw [hs _ h.fp h.pmap.1]; exact h.obj, h.fp, h.fbs, h.fbf, h.fbl, h.d1, h.d2, h.d3, hm, h.mf.same (hs _ h.fbf h.d1.symm), h.ml.same (hs _ h.fbl h.d2.symm),
    h.rs.same fun k e => hs k (h.os k e) (row_not_map h.rs hb e), h.rf.same fun k e => hs k (h.of k e) (row_not_map h.rf hb e), h.rl.same fun k e => hs k (h.ol k e) (row_not_map h.rl hb e),
    h.os, h.of, h.ol, h.a1, h.a2, h.a3, fun k hk => Nat.lt_of_lt_of_le (h.lt k hk) hg.size⟩

theorem Parts.putF (h : Parts w p F σ bs bf bl sv fv lv) (hg : w.grownBy w' (some bf)) {L : List Fn} (hm : MapIs 55 28 .u64 fnV 1 w' bf L) : Parts w' p F { σ with funs := L } bs bf bl sv fv lv := by
  obtain ⟨es, c, hb⟩ := h.mf.obj
  have hs : ∀ k, F k → k ≠ bf → w'.heap[k]? = w.heap[k]? := fun k hk hne => hg.block k (h.lt k hk) (fun e => hne (Option.some.inj e))
  exact ⟨by rw [hs _ h.fp h.pmap.2.1]; exact h.obj, h.fp, h.fbs, h.fbf, h.fbl, h.d1, h.d2, h.d3, h.ms.same (hs _ h.fbs h.d1), hm, h.ml.same (hs _ h.fbl h.d3.symm),
    h.rs.same fun k e => hs k (h.os k e) (row_not_map h.rs hb e), h.rf.same fun k e => hs k (h.of k e) (row_not_map h.rf hb e), h.rl.same fun k e => hs k (h.ol k e) (row_not_map h.rl hb e),
    h.os, h.of, h.ol, h.a1, h.a2, h.a3, fun k hk => Nat.lt_of_lt_of_le (h.lt k hk) hg.size⟩

theorem Parts.putL (h : Parts w p F σ bs bf bl sv fv lv) (hg : w.grownBy w' (some bl)) {L : List Fr} (hm : MapIs 31 28 .u64 Fr.val 1 w' bl L) : Parts w' p F { σ with locs := L } bs bf bl sv fv lv := by
  obtain ⟨es, c, hb⟩ := h.ml.obj
  have hs : ∀ k, F k → k ≠ bl → w'.heap[k]? = w.heap[k]? := fun k hk hne => hg.block k (h.lt k hk) (fun e => hne (Option.some.inj e))
  exact ⟨by rw [hs _ h.fp h.pmap.2.2]; exact h.obj, h.fp, h.fbs, h.fbf, h.fbl, h.d1, h.d2, h.d3, h.ms.same (hs _ h.fbs h.d2), h.mf.same (hs _ h.fbf h.d3), hm,
    h.rs.same fun k e => hs k (h.os k e) (row_not_map h.rs hb e), h.rf.same fun k e => hs k (h.of k e) (row_not_map h.rf hb e), h.rl.same fun k e => hs k (h.ol k e) (row_not_map h.rl hb e),
    h.os, h.of, h.ol, h.a1, h.a2, h.a3, fun k hk => Nat.lt_of_lt_of_le (h.lt k hk) hg.size⟩

/-- the facts of a table's append and of the store behind it -/
theorem tab_facts {v v' : Value} {b : List UInt8} {i : Nat} (h : Parts w p F σ bs bf bl sv fv lv) (hv : ∀ k, v.ownBlock = some k → F k) (hrow : ∃ c, Row w v c) (hA : App w v w' v' b) :
    (∀ k, ext F w w' k → k < (w'.setCell ⟨p, i, none⟩ v').heap.size) ∧
    (∀ k, F k → v.ownBlock ≠ some k → k ≠ p → (w'.setCell ⟨p, i, none⟩ v').heap[k]? = w.heap[k]?) ∧
    (∀ k, v'.ownBlock = some k → ext F w w' k) ∧ Row (w'.setCell ⟨p, i, none⟩ v') v' b ∧
    (∀ (u : Value) , (∀ k, u.ownBlock = some k → F k) → (∀ k, v.ownBlock = some k → u.ownBlock ≠ some k) → ∀ k, v'.ownBlock = some k → u.ownBlock ≠ some k) ∧ w'.heap[p]? = w.heap[p]? := by
  obtain ⟨c, hc⟩ := hrow
  have hpp : w'.heap[p]? = w.heap[p]? := hA.grown.block p (h.lt _ h.fp) (fun e => row_not_bd hc h.obj e.symm rfl)
  refine ⟨fun k hk => ?_, fun k hk hn hkp => ?_, fun k hk => ?_, ?_, fun u hu hd k hk => ?_, hpp⟩
  · simp
    rcases hk with hk | hk
    · exact Nat.lt_of_lt_of_le (h.lt k hk) hA.grown.size
    · exact hk.2
  · rw [heap_setCell_other w' _ k v' hkp, hA.grown.block k (h.lt k hk) (fun e => hn e.symm)]
  · obtain ⟨cur, hcur⟩ := hA.row.obj hk
    have hlt : k < w'.heap.size := (Array.getElem?_eq_some_iff.1 hcur).1
    rcases hA.loc with e | ⟨j, e, hj⟩
    · rw [e] at hk; exact .inl (hv k hk)
    · rw [hk] at e; cases e; exact .inr ⟨hj, hlt⟩
  · refine hA.row.same fun k hk => heap_setCell_other w' _ k v' ?_
    refine row_not_bd hA.row (cs := bdCells bs bf bl sv fv lv) ?_ hk
    rw [hpp]; exact h.obj
  · rcases hA.loc with e | ⟨j, e, hj⟩
    · rw [e] at hk; exact hd k hk
    · rw [hk] at e; cases e
      intro e2
      have := h.lt _ (hu _ e2)
      omega

theorem Parts.tabS {v' : Value} {b : List UInt8} (h : Parts w p F σ bs bf bl sv fv lv) (hA : App w sv w' v' b) : Parts (w'.setCell ⟨p, 5, none⟩ v') p (ext F w w') { σ with st := b } bs bf bl v' fv lv := by
  obtain ⟨t1, t2, t3, t4, t5, t6⟩ := tab_facts (i := 5) h h.os ⟨_, h.rs⟩ hA
  obtain ⟨es, c, hbs⟩ := h.ms.obj
  obtain ⟨es2, c2, hbf⟩ := h.mf.obj
  obtain ⟨es3, c3, hbl⟩ := h.ml.obj
  have ho := heap_setCell_same w' p 5 (bdCells bs bf bl sv fv lv) 49 v' (by rw [t6]; exact h.obj)
  refine ⟨by rw [ho]; simp [bdCells], .inl h.fp, .inl h.fbs, .inl h.fbf, .inl h.fbl, h.d1, h.d2, h.d3, h.ms.same (t2 _ h.fbs (fun e => row_not_map h.rs hbs e rfl) h.pmap.1.symm), h.mf.same (t2 _ h.fbf (fun e => row_not_map h.rs hbf e rfl) h.pmap.2.1.symm), h.ml.same (t2 _ h.fbl (fun e => row_not_map h.rs hbl e rfl) h.pmap.2.2.symm),
    t4, h.rf.same fun k e => t2 k (h.of k e) (fun e' => h.a1 k e' e) (row_not_bd h.rf h.obj e), h.rl.same fun k e => t2 k (h.ol k e) (fun e' => h.a2 k e' e) (row_not_bd h.rl h.obj e), t3, fun k e => .inl (h.of k e), fun k e => .inl (h.ol k e), t5 fv h.of h.a1, t5 lv h.ol h.a2, h.a3, t1⟩

theorem Parts.tabF {v' : Value} {b : List UInt8} (h : Parts w p F σ bs bf bl sv fv lv) (hA : App w fv w' v' b) : Parts (w'.setCell ⟨p, 6, none⟩ v') p (ext F w w') { σ with fm := b } bs bf bl sv v' lv := by
  obtain ⟨t1, t2, t3, t4, t5, t6⟩ := tab_facts (i := 6) h h.of ⟨_, h.rf⟩ hA
  obtain ⟨es, c, hbs⟩ := h.ms.obj
  obtain ⟨es2, c2, hbf⟩ := h.mf.obj
  obtain ⟨es3, c3, hbl⟩ := h.ml.obj
  have ho := heap_setCell_same w' p 6 (bdCells bs bf bl sv fv lv) 49 v' (by rw [t6]; exact h.obj)
  have a1' : ∀ k, fv.ownBlock = some k → sv.ownBlock ≠ some k := fun k e e' => h.a1 k e' e
  refine ⟨by rw [ho]; simp [bdCells], .inl h.fp, .inl h.fbs, .inl h.fbf, .inl h.fbl, h.d1, h.d2, h.d3, h.ms.same (t2 _ h.fbs (fun e => row_not_map h.rf hbs e rfl) h.pmap.1.symm), h.mf.same (t2 _ h.fbf (fun e => row_not_map h.rf hbf e rfl) h.pmap.2.1.symm), h.ml.same (t2 _ h.fbl (fun e => row_not_map h.rf hbl e rfl) h.pmap.2.2.symm),
    h.rs.same fun k e => t2 k (h.os k e) (fun e' => h.a1 k e e') (row_not_bd h.rs h.obj e), t4, h.rl.same fun k e => t2 k (h.ol k e) (fun e' => h.a3 k e' e) (row_not_bd h.rl h.obj e), fun k e => .inl (h.os k e), t3, fun k e => .inl (h.ol k e), fun k e e' => t5 sv h.os a1' k e' e, h.a2, t5 lv h.ol h.a3, t1⟩

theorem Parts.tabL {v' : Value} {b : List UInt8} (h : Parts w p F σ bs bf bl sv fv lv) (hA : App w lv w' v' b) : Parts (w'.setCell ⟨p, 7, none⟩ v') p (ext F w w') { σ with lm := b } bs bf bl sv fv v' := by
  obtain ⟨t1, t2, t3, t4, t5, t6⟩ := tab_facts (i := 7) h h.ol ⟨_, h.rl⟩ hA
  obtain ⟨es, c, hbs⟩ := h.ms.obj
  obtain ⟨es2, c2, hbf⟩ := h.mf.obj
  obtain ⟨es3, c3, hbl⟩ := h.ml.obj
  have ho := heap_setCell_same w' p 7 (bdCells bs bf bl sv fv lv) 49 v' (by rw [t6]; exact h.obj)
  have a2' : ∀ k, lv.ownBlock = some k → sv.ownBlock ≠ some k := fun k e e' => h.a2 k e' e
  have a3' : ∀ k, lv.ownBlock = some k → fv.ownBlock ≠ some k := fun k e e' => h.a3 k e' e
  refine ⟨by rw [ho]; simp [bdCells], .inl h.fp, .inl h.fbs, .inl h.fbf, .inl h.fbl, h.d1, h.d2, h.d3, h.ms.same (t2 _ h.fbs (fun e => row_not_map h.rl hbs e rfl) h.pmap.1.symm), h.mf.same (t2 _ h.fbf (fun e => row_not_map h.rl hbf e rfl) h.pmap.2.1.symm), h.ml.same (t2 _ h.fbl (fun e => row_not_map h.rl hbl e rfl) h.pmap.2.2.symm),
    h.rs.same fun k e => t2 k (h.os k e) (fun e' => h.a2 k e e') (row_not_bd h.rs h.obj e), h.rf.same fun k e => t2 k (h.of k e) (fun e' => h.a3 k e e') (row_not_bd h.rf h.obj e), t4, fun k e => .inl (h.os k e), fun k e => .inl (h.of k e), t3, h.a1, fun k e e' => t5 sv h.os a2' k e' e, fun k e e' => t5 fv h.of a3' k e' e, t1⟩

end
end Go.Proofs.Qxb6609280a
