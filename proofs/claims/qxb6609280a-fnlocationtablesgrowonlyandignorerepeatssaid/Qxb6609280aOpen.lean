import Derived.Test.Qxb6609280aLeaf
import Derived.Deep.Slices
import Derived.Lib.SmallJoins
namespace Go.Proofs.Qxb6609280a
open Go.ChangeShapes Go.WideShapes Go.ChangeAt Go.RowKit

theorem Try.cells33' : Try.prog.cellsOf 33 = 4 := by kernel_rfl

theorem u64_nat {z : Int} (h : (Lit.int .u64 z).wf = true) : ∃ n : Nat, z = n ∧ n < 18446744073709551616 := by
  have h2 : 0 ≤ z ∧ z < 18446744073709551616 := by
    simp [Lit.wf, IntKind.min, IntKind.max, IntKind.bits, IntKind.signed] at h
    omega
  exact ⟨z.toNat, by omega, by omega⟩

theorem i64_range {z : Int} (h : (Lit.int .i64 z).wf = true) : -9223372036854775808 ≤ z ∧ z < 9223372036854775808 := by
  simp [Lit.wf, IntKind.min, IntKind.max, IntKind.bits, IntKind.signed] at h
  omega

theorem one_frame {H : Type} {enc : TypeId × Value → H} {W : World} {k : Nat} {cs : List Value} {x : DataW H × List MemPlace} (h : DataW.trod enc Try.prog W 0 (fun _ => true) true k 33 cs = some x) :
    ∃ f : Fr, f.Ok ∧ cs = [.int .u64 f.a, .string f.fn, .string f.fl, .int .i64 f.ln] := by
  obtain ⟨y0, y1, y2, y3, m, _, hl, g0, g1, g2, g3⟩ := Joins.trod_struct4 Try.underlying33 h
  rw [Try.cells33'] at hl
  simp only [Try.cells28, Try.cells9, Try.cells2] at g0 g1 g2 g3
  match cs, hl with
  | [v0, v1, v2, v3], _ =>
    simp at g0 g1 g2 g3
    obtain ⟨a, h0, _, w0⟩ := DataW.trod_int Try.underlying28 g0
    obtain ⟨fn, h1, _, w1⟩ := DataW.trod_string Try.underlying9 g1
    obtain ⟨fl, h2, _, w2⟩ := DataW.trod_string Try.underlying9 g2
    obtain ⟨ln, h3, _, w3⟩ := DataW.trod_int Try.underlying2 g3
    obtain ⟨a', rfl, ha⟩ := u64_nat w0
    have hr := i64_range w3
    cases h0; cases h1; cases h2; cases h3
    exact ⟨⟨a', fn, fl, ln⟩, ⟨ha, w1, w2, hr.1, hr.2⟩, rfl⟩

theorem openFrames {H : Type} {enc : TypeId × Value → H} {W : World} {fuel : Nat} {a : Option Addr} {n c : Nat} {x : DataW H × List MemPlace} (h : DataW.trod enc Try.prog W 0 (fun _ => true) true fuel 22 (Value.slice a n c).cells.toList = some x) :
    ∃ Fs : Nat → Fr, n ≤ maxLen ∧ RdF W a n Fs ∧ ∀ i, i < n → (Fs i).Ok := by
  rcases Deep.open_slice Try.underlying22 h with ⟨hcs, _⟩ | ⟨y, l, cp, m, k, D, Pl, hcs, _, hl, hm, hmm, _, hx⟩
  · simp [Value.cells] at hcs
    obtain ⟨rfl, rfl, rfl⟩ := hcs
    exact ⟨fun _ => ⟨0, ⟨#[]⟩, ⟨#[]⟩, 0⟩, Nat.zero_le _, ⟨0, 0, by omega, by omega⟩, by omega⟩
  · simp [Value.cells] at hcs
    obtain ⟨rfl, rfl, rfl⟩ := hcs
    simp only [if_true] at hmm
    have each : ∀ i, i < n → ∃ f : Fr, f.Ok ∧ ∀ j, j < 4 → W.cell? (y.add (i * 4 + j)) = [Value.int .u64 f.a, .string f.fn, .string f.fl, .int .i64 f.ln][j]? := by
      intro i hi
      obtain ⟨cs', h1, h2⟩ := hx i (by omega)
      rw [Try.cells33'] at h1
      obtain ⟨_, hlen, hcell⟩ := World.cells?_some h1
      obtain ⟨f, hok, rfl⟩ := one_frame h2
      refine ⟨f, hok, fun j hj => ?_⟩
      have := hcell j hj
      rw [Deep.add_add] at this
      exact this
    have hsp : 0 < n → y.spot = none := by
      intro h0
      obtain ⟨f, _, hc⟩ := each 0 h0
      have h1 := hc 0 (by decide)
      obtain ⟨b, o, sp⟩ := y
      cases sp with
      | some k =>
        exfalso
        simp only [Addr.add, World.cell?] at h1
        split at h1 <;> simp at h1
      | none => rfl
    obtain ⟨Fs, hFs⟩ : ∃ Fs : Nat → Fr, ∀ i, i < n → (Fs i).Ok ∧ ∀ j, j < 4 → W.cell? (y.add (i * 4 + j)) = [Value.int .u64 (Fs i).a, .string (Fs i).fn, .string (Fs i).fl, .int .i64 (Fs i).ln][j]? :=
      ⟨fun i => if h : i < n then Classical.choose (each i h) else ⟨0, ⟨#[]⟩, ⟨#[]⟩, 0⟩, fun i hi => by simp only [dif_pos hi]; exact Classical.choose_spec (each i hi)⟩
    refine ⟨Fs, by omega, ⟨y.block, y.off, fun h0 => ?_, fun i hi => ?_⟩, fun i hi => (hFs i hi).1⟩
    · obtain ⟨b, o, sp⟩ := y
      have := hsp h0
      simp only at this
      rw [this]
    · have hs := hsp (by omega)
      obtain ⟨b, o, sp⟩ := y
      simp only at hs
      subst hs
      have hc := (hFs i hi).2
      have e : ∀ j, W.cell? ((⟨b, o, none⟩ : Addr).add j) = W.cell? ⟨b, o + j, none⟩ := fun j => by unfold Addr.add; split <;> simp_all
      refine ⟨?_, ?_, ?_, ?_⟩
      · have := hc 0 (by decide); rw [e] at this; simpa using this
      · have := hc 1 (by decide); rw [e] at this; simpa [Nat.add_assoc] using this
      · have := hc 2 (by decide); rw [e] at this; simpa [Nat.add_assoc] using this
      · have := hc 3 (by decide); rw [e] at this; simpa [Nat.add_assoc] using this

end Go.Proofs.Qxb6609280a
