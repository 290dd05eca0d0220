import Derived.Test.Qxb6609280aByt
import Derived.Maps.OwnSet
import Derived.DeepKeys4
import Derived.StringKeys
namespace Go.Proofs.Qxb6609280a
open Go.RowKit Go.Maps

theorem Try.laidOut : laidOutB Try.prog = true := by kernel_rfl
theorem Try.row55 : (55 : TypeId) < Try.prog.types.size := of_decide_eq_true (by kernel_rfl)
theorem Try.row31 : (31 : TypeId) < Try.prog.types.size := of_decide_eq_true (by kernel_rfl)
theorem Try.wide55 : (match Try.prog.underlying 55 with | some (.array _ _) | some (.struct _) => true | _ => false) = true := by kernel_rfl
theorem Try.wide31 : (match Try.prog.underlying 31 with | some (.array _ _) | some (.struct _) => true | _ => false) = true := by kernel_rfl
theorem law9 : Keyed Try.prog 9 := string_keyed Try.underlying9
theorem law55 : Keyed Try.prog 55 := Keyed.of_law (deep_law_laid Try.laidOut (m := 2) (by omega) Try.row55 (by kernel_rfl) Try.wide55)
theorem law31 : Keyed Try.prog 31 := Keyed.of_law (deep_law_laid Try.laidOut (m := 2) (by omega) Try.row31 (by kernel_rfl) Try.wide31)
theorem Try.keyType55 : Try.prog.keyType 55 = true := by kernel_rfl
theorem Try.keyType31 : Try.prog.keyType 31 = true := by kernel_rfl
theorem Try.cells55 : Try.prog.cellsOf 55 = 2 := by kernel_rfl
theorem Try.cells31 : Try.prog.cellsOf 31 = 4 := by kernel_rfl
theorem Try.cells9 : Try.prog.cellsOf 9 = 1 := by kernel_rfl
theorem Try.cells28 : Try.prog.cellsOf 28 = 1 := by kernel_rfl
theorem Try.cells2 : Try.prog.cellsOf 2 = 1 := by kernel_rfl

/-- a frame -/
structure Fr where
  a : Nat
  fn : ByteArray
  fl : ByteArray
  ln : Int

/-- its cells are values of their types -/
structure Fr.Ok (f : Fr) : Prop where
  a : f.a < 18446744073709551616
  fn : f.fn.size ≤ maxLen
  fl : f.fl.size ≤ maxLen
  lo : -9223372036854775808 ≤ f.ln
  hi : f.ln < 9223372036854775808

def Fr.val (f : Fr) : Value := .agg #[.int .u64 f.a, .string f.fn, .string f.fl, .int .i64 f.ln]
/-- a string, a function: as keys -/
structure Bs where
  s : ByteArray
structure Fn where
  nm : ByteArray
  fl : ByteArray
def Bs.val (s : Bs) : Value := .string s.s
def fnV (f : Fn) : Value := .agg #[.string f.nm, .string f.fl]

noncomputable instance : DecidableEq Fr := fun a b => Classical.propDecidable (a = b)
noncomputable instance : DecidableEq Bs := fun a b => Classical.propDecidable (a = b)
noncomputable instance : DecidableEq Fn := fun a b => Classical.propDecidable (a = b)

theorem Fr.val_inj {f g : Fr} (h : f.val = g.val) : f = g := by
  cases f; cases g; simp [Fr.val] at h; obtain ⟨h1, rfl, rfl, rfl⟩ := h; simp; omega
theorem Bs.val_inj {f g : Bs} (h : f.val = g.val) : f = g := by
  cases f; cases g; simp [Bs.val] at h; simp_all
theorem fnV_inj {f g : Fn} (h : fnV f = fnV g) : f = g := by
  cases f; cases g; simp [fnV] at h; simp_all

theorem key9 {s : Bs} (h : s.s.size ≤ maxLen) : ∃ kl, keyOf Try.prog 9 s.val = some kl := ⟨_, WideMaps.keyOf_string_mk Try.underlying9 h⟩

theorem key_two {P : Program} {k s : TypeId} {f1 f2 : Field} {m : Nat} (hu : P.underlying k = some (.struct #[f1, f2])) (hk : P.keyType k = true) (hc : P.cellsOf k = 2) (hs : P.underlying s = some .string) (hcs : P.cellsOf s = 1)
    (t1 : f1.type = s) (t2 : f2.type = s) (o1 : f1.offset = 0) (o2 : f2.offset = 1) (n1 : (f1.name != "_") = true) (n2 : (f2.name != "_") = true) (hm : P.types.size = m + 1) {a b : ByteArray} (h1 : a.size ≤ maxLen) (h2 : b.size ≤ maxLen) :
    (keyOf P k (.agg #[.string a, .string b])).isSome = true := by
  have e : P.keyLits (m + 1) s [.string a] = some [.string a.data.toList] := by simp [Program.keyLits, hs, h1]
  have e2 : P.keyLits (m + 1) s [.string b] = some [.string b.data.toList] := by simp [Program.keyLits, hs, h2]
  have e3 : P.keyLits (m + 1 + 1) k [.string a, .string b] = some [.string a.data.toList, .string b.data.toList] := by
    rw [Program.keyLits.eq_def]
    simp only [hu]
    simp [hc, n1, n2, t1, t2, o1, o2, hcs, e, e2]
  simp [keyOf, hu, hk, Value.formed, hc, Value.cells, hm, e3]

theorem key_four {P : Program} {k s x y : TypeId} {f0 f1 f2 f3 : Field} {m : Nat} (hu : P.underlying k = some (.struct #[f0, f1, f2, f3])) (hk : P.keyType k = true) (hc : P.cellsOf k = 4) (hs : P.underlying s = some .string) (hcs : P.cellsOf s = 1)
    (hx : P.underlying x = some (.int .u64)) (hcx : P.cellsOf x = 1) (hy : P.underlying y = some (.int .i64)) (hcy : P.cellsOf y = 1)
    (t0 : f0.type = x) (t1 : f1.type = s) (t2 : f2.type = s) (t3 : f3.type = y) (o0 : f0.offset = 0) (o1 : f1.offset = 1) (o2 : f2.offset = 2) (o3 : f3.offset = 3)
    (n0 : (f0.name != "_") = true) (n1 : (f1.name != "_") = true) (n2 : (f2.name != "_") = true) (n3 : (f3.name != "_") = true) (hm : P.types.size = m + 1) {a b : ByteArray} {u i : Int} (h1 : a.size ≤ maxLen) (h2 : b.size ≤ maxLen) (w1 : (Lit.int .u64 u).wf = true) (w2 : (Lit.int .i64 i).wf = true) :
    (keyOf P k (.agg #[.int .u64 u, .string a, .string b, .int .i64 i])).isSome = true := by
  have e0 : P.keyLits (m + 1) x [.int .u64 u] = some [.int .u64 u] := by simp [Program.keyLits, hx, w1]
  have e : P.keyLits (m + 1) s [.string a] = some [.string a.data.toList] := by simp [Program.keyLits, hs, h1]
  have e2 : P.keyLits (m + 1) s [.string b] = some [.string b.data.toList] := by simp [Program.keyLits, hs, h2]
  have e4 : P.keyLits (m + 1) y [.int .i64 i] = some [.int .i64 i] := by simp [Program.keyLits, hy, w2]
  have e3 : P.keyLits (m + 1 + 1) k [.int .u64 u, .string a, .string b, .int .i64 i] = some [.int .u64 u, .string a.data.toList, .string b.data.toList, .int .i64 i] := by
    rw [Program.keyLits.eq_def]
    simp only [hu]
    simp [hc, n0, n1, n2, n3, t0, t1, t2, t3, o0, o1, o2, o3, hcs, hcx, hcy, e, e2, e0, e4]
  simp [keyOf, hu, hk, Value.formed, hc, Value.cells, hm, e3]

theorem Try.sized : ∃ m, Try.prog.types.size = m + 1 := Nat.exists_eq_add_one_of_ne_zero (Nat.ne_of_gt (Nat.lt_of_le_of_lt (Nat.zero_le _) Try.row55))

theorem key55 {f : Fn} (h1 : f.nm.size ≤ maxLen) (h2 : f.fl.size ≤ maxLen) : ∃ kl, keyOf Try.prog 55 (fnV f) = some kl := by
  obtain ⟨m, hm⟩ := Try.sized
  exact Option.isSome_iff_exists.1 (key_two Try.underlying55 Try.keyType55 Try.cells55 Try.underlying9 Try.cells9 rfl rfl rfl rfl (by decide) (by decide) hm h1 h2)

theorem wf_u64 {a : Nat} (h : a < 18446744073709551616) : (Lit.int .u64 (a : Int)).wf = true := by simp [Lit.wf, IntKind.min, IntKind.max, IntKind.bits, IntKind.signed]; omega
theorem wf_i64 {z : Int} (h : -9223372036854775808 ≤ z) (h2 : z < 9223372036854775808) : (Lit.int .i64 z).wf = true := by simp [Lit.wf, IntKind.min, IntKind.max, IntKind.bits, IntKind.signed]; omega

theorem key31 {f : Fr} (h : f.Ok) : ∃ kl, keyOf Try.prog 31 f.val = some kl := by
  obtain ⟨m, hm⟩ := Try.sized
  exact Option.isSome_iff_exists.1 (key_four Try.underlying31 Try.keyType31 Try.cells31 Try.underlying9 Try.cells9 Try.underlying28 Try.cells28 Try.underlying2 Try.cells2 rfl rfl rfl rfl rfl rfl rfl rfl (by decide) (by decide) (by decide) (by decide) hm h.fn h.fl (wf_u64 h.a) (wf_i64 h.lo h.hi))

/-! ### a map that holds the keys L, each with its place -/
section
variable {α : Type} [DecidableEq α]

/-- block b is a map whose keys are L's, each with its place in L (and 'off') -/
def MapIs (K E : TypeId) (q : IntKind) (kv : α → Value) (off : Nat) (w : World) (b : Nat) (L : List α) : Prop :=
  ∃ D : DataW Unit, w.ownsMap Try.prog K (plainElem Try.prog E) b L.length D ∧ Maps.size D = L.length ∧
    ∀ a kl, keyOf Try.prog K (kv a) = some kl → Maps.has D kl = decide (a ∈ L) ∧ (a ∈ L → D.atKey kl (.lit (.int q 0)) = .lit (.int q ((off + L.idxOf a : Nat) : Int)))

theorem MapIs.new (K E : TypeId) (q : IntKind) (kv : α → Value) (off : Nat) (w : World) : MapIs K E q kv off (w.alloc (.map #[] 0)) w.heap.size [] :=
  ⟨.map [], World.ownsMap_made w Try.prog K _, rfl, fun a kl _ => ⟨by simp [Maps.has_eq], fun h => by cases h⟩⟩

theorem MapIs.same {K E : TypeId} {q : IntKind} {kv : α → Value} {off : Nat} {w w' : World} {b : Nat} {L : List α} (h : MapIs K E q kv off w b L) (hb : w'.heap[b]? = w.heap[b]?) : MapIs K E q kv off w' b L := by
  obtain ⟨D, ⟨es, clock, h1, h2⟩, h3⟩ := h
  exact ⟨D, ⟨es, clock, by rw [hb]; exact h1, h2⟩, h3⟩

theorem MapIs.lt {K E : TypeId} {q : IntKind} {kv : α → Value} {off : Nat} {w : World} {b : Nat} {L : List α} (h : MapIs K E q kv off w b L) : b < w.heap.size := by
  obtain ⟨D, h, _⟩ := h
  exact h.lt

theorem MapIs.obj {K E : TypeId} {q : IntKind} {kv : α → Value} {off : Nat} {w : World} {b : Nat} {L : List α} (h : MapIs K E q kv off w b L) : ∃ es clock, w.heap[b]? = some (.map es clock) := by
  obtain ⟨D, ⟨es, clock, h1, _⟩, _⟩ := h
  exact ⟨es, clock, h1⟩

theorem MapIs.put {K E : TypeId} {q : IntKind} {kv : α → Value} {off : Nat} {w w' : World} {b : Nat} {L : List α} (law : Keyed Try.prog K) (inj : ∀ x y, kv x = kv y → x = y) {D : DataW Unit} {a : α} {kl : Lit}
    (hown : w.ownsMap Try.prog K (plainElem Try.prog E) b L.length D) (hs : Maps.size D = L.length)
    (hh : ∀ a kl, keyOf Try.prog K (kv a) = some kl → Maps.has D kl = decide (a ∈ L) ∧ (a ∈ L → D.atKey kl (.lit (.int q 0)) = .lit (.int q ((off + L.idxOf a : Nat) : Int))))
    (hkey : keyOf Try.prog K (kv a) = some kl) (hn : a ∉ L) (hown' : w'.ownsMap Try.prog K (plainElem Try.prog E) b (L.length + 1) (D.put kl (.lit (.int q ((off + L.length : Nat) : Int))))) : MapIs K E q kv off w' b (L ++ [a]) := by
  have hT := hown.tidy law
  have hno : Maps.has D kl = false := by rw [(hh a kl hkey).1]; exact decide_eq_false hn
  refine ⟨_, by rw [List.length_append]; exact hown', ?_, fun a' kl' hk' => ?_⟩
  · rw [Maps.size_put hT, hno, hs, List.length_append]; rfl
  · by_cases e : kl' = kl
    · subst e
      obtain rfl := inj _ _ (law.inj hk' hkey)
      refine ⟨by rw [Maps.has_put_same hT.isMap (law.key hkey)]; simp, fun _ => ?_⟩
      rw [Maps.atKey_put_same hT.isMap (law.key hkey), List.idxOf_append, if_neg hn]
      simp
    · have hne : a' ≠ a := fun e' => by subst e'; rw [hk'] at hkey; exact e (Option.some.inj hkey)
      rw [Maps.has_put_other e, Maps.atKey_put_other e, (hh a' kl' hk').1]
      refine ⟨by simp [hne], fun hm => ?_⟩
      have hm' : a' ∈ L := by simpa [hne] using hm
      rw [(hh a' kl' hk').2 hm', List.idxOf_append, if_pos hm']

end
end Go.Proofs.Qxb6609280a
