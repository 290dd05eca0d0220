import Derived.Test.Qxb6609202aPcgPlain
import Derived.Test.Qxb6609202aGen
import GoSem.Claims
import Derived.KernelRfl
import Derived.Laws.BitsLemmas
import Derived.Laws.Bits64
import Derived.Laws.Shifts
namespace Go.Proofs.Qxb6609202a

/-- what the generator gives out in the state (h, l), as the walk has it -/
def outI (h l : Nat) : Int :=
  IntKind.u64.wrap (bits BinOp.xor IntKind.u64 (IntKind.u64.wrap (bits BinOp.xor IntKind.u64 (h : Int) ((h : Int) / 4294967296) * 15750249268501108917))
    (IntKind.u64.wrap (bits BinOp.xor IntKind.u64 (h : Int) ((h : Int) / 4294967296) * 15750249268501108917) / 281474976710656) * bits BinOp.or IntKind.u64 (l : Int) 1)
def outN (h l : Nat) : Nat := (outI h l).toNat
theorem outI_eq (h l : Nat) : outI h l = (outN h l : Int) := by
  have : 0 ≤ outI h l := wrap_u64_nonneg _
  unfold outN; omega
theorem outN_lt (h l : Nat) : outN h l < 18446744073709551616 := by
  have h1 : outI h l < 18446744073709551616 := by unfold outI; rw [IntKind.wrap_u64]; omega
  have := outI_eq h l
  omega
theorem out_one : outN 10053033840993720478 0 = 1 := by kernel_rfl

/-- what lies below this is drawn anew -/
def thr (n : Nat) : Nat := (18446744073709551616 - n) % n
theorem thr_lt {n : Nat} (h : 0 < n) : thr n < n := Nat.mod_lt _ h
def loD (n h l : Nat) : Nat := outN h l * n % 18446744073709551616
def valD (n h l : Nat) : Nat := outN h l * n / 18446744073709551616
def okD (n h l : Nat) : Bool := decide (thr n ≤ loD n h l)
theorem valD_lt {n : Nat} (h0 : 0 < n) (h l : Nat) : valD n h l < n := by
  unfold valD
  rw [Nat.div_lt_iff_lt_mul (by decide)]
  rw [Nat.mul_comm]
  exact Nat.mul_lt_mul_of_pos_left (outN_lt h l) h0
theorem loD_lt (n h l : Nat) : loD n h l < 18446744073709551616 := Nat.mod_lt _ (by decide)

def cont (n : Nat) : Nat → Nat → Nat → Option (Nat × Nat × Nat) := contG (okD n) (valD n) nxh nxl

theorem ok_one (n : Nat) (h0 : 0 < n) (hn : n < 18446744073709551616) : okD n 10053033840993720478 0 = true := by
  unfold okD loD
  rw [out_one, Nat.one_mul, Nat.mod_eq_of_lt hn]
  have := thr_lt h0
  simp; omega

theorem reach (h l h' l' : Nat) (hh : h < 18446744073709551616) (hl : l < 18446744073709551616) (hh' : h' < 18446744073709551616) (hl' : l' < 18446744073709551616) : ∃ k, stepsG nxh nxl k (h, l) = (h', l') :=
  stepsG_reach nx_lin nxh_lt nxl_lt (by decide) ⟨128, by decide⟩ (by decide) (by decide) h l h' l' hh hl hh' hl'

/-- the draws come to an end -/
theorem cont_ends (n h l : Nat) (h0 : 0 < n) (hn : n < 18446744073709551616) (hh : h < 18446744073709551616) (hl : l < 18446744073709551616) : ∃ k r, cont n k h l = some r := by
  have h1 := ok_one n h0 hn
  have hb : (10053033840993720478 : Nat) < 18446744073709551616 := by decide
  revert h1 hb
  generalize 10053033840993720478 = g
  intro h1 hb
  obtain ⟨k, hk⟩ := reach h l g 0 hh hl hb (by decide)
  obtain ⟨r, hr⟩ := contG_of_ok (ok := okD n) (val := valD n) (nh := nxh) (nl := nxl) k h l (by rw [hk]; exact h1)
  exact ⟨k, r, hr⟩

theorem cont_bd (n k h l : Nat) (r : Nat × Nat × Nat) (h0 : 0 < n) (hh : h < 18446744073709551616) (hl : l < 18446744073709551616) (hr : cont n k h l = some r) : r.1 < n ∧ r.2.1 < 18446744073709551616 ∧ r.2.2 < 18446744073709551616 :=
  contG_bd (q := fun v => v < n) (p := fun h l => h < 18446744073709551616 ∧ l < 18446744073709551616) (fun h l => valD_lt h0 h l) (fun h l => ⟨nxh_lt h l, nxl_lt l⟩) k h l r ⟨hh, hl⟩ hr

end Go.Proofs.Qxb6609202a
