import Derived.Test.Qxb6609202aPcg
import Derived.Test.Qxb6609202aDraw
namespace Go.Proofs.Qxb6609202a
open Go.RowKit

theorem ret_int {k : IntKind} {a b : Int} (h : a = b) : Ending.returned (.int k a) = .returned (.int k b) := by rw [h]

theorem outI_fold (H L : Nat) : IntKind.u64.wrap (bits BinOp.xor IntKind.u64 (IntKind.u64.wrap (bits BinOp.xor IntKind.u64 (H : Int) ((H : Int) / 4294967296) * 15750249268501108917))
    (IntKind.u64.wrap (bits BinOp.xor IntKind.u64 (H : Int) ((H : Int) / 4294967296) * 15750249268501108917) / 281474976710656) * bits BinOp.or IntKind.u64 (L : Int) 1) = ((outN H L : Nat) : Int) := by
  rw [← outI_eq, outI]

/-- block b is a PCG with these two words -/
def PcgAt (w : World) (b h l : Nat) : Prop := w.rowIs b 46 2 (fun j => if j = 0 then .int .u64 h else .int .u64 l)

/-- only block b has turned; none was made -/
structure OnlyAt (b : Nat) (w w' : World) : Prop where
  os : w'.os = w.os
  tape : w'.tape = w.tape
  output : w'.output = w.output
  size : w'.heap.size = w.heap.size
  block : ∀ k, k ≠ b → w'.heap[k]? = w.heap[k]?

theorem OnlyAt.refl (b : Nat) (w : World) : OnlyAt b w w := ⟨rfl, rfl, rfl, rfl, fun _ _ => rfl⟩
theorem OnlyAt.trans {b : Nat} {w1 w2 w3 : World} (h : OnlyAt b w1 w2) (k : OnlyAt b w2 w3) : OnlyAt b w1 w3 :=
  ⟨k.os.trans h.os, k.tape.trans h.tape, k.output.trans h.output, k.size.trans h.size, fun i hi => (k.block i hi).trans (h.block i hi)⟩
theorem OnlyAt.drewN {b : Nat} {w w' : World} (h : OnlyAt b w w') (q : Nat) : OnlyAt b w (w'.drewN q) := ⟨h.os, h.tape, h.output, h.size, h.block⟩
theorem OnlyAt.setCell (b o : Nat) (v : Value) {w w' : World} (h : OnlyAt b w w') : OnlyAt b w (w'.setCell ⟨b, o, none⟩ v) :=
  h.trans ⟨rfl, rfl, rfl, by simp [World.setCell], fun k hk => Below.heap_setCell _ _ _ _ hk⟩
theorem OnlyAt.cell {b : Nat} {w w' : World} (h : OnlyAt b w w') {p : Addr} (hp : p.block ≠ b) : w'.cell? p = w.cell? p := World.cell?_of_block (w := w) (h.block _ hp)
theorem OnlyAt.below {b B : Nat} {w w' : World} (h : OnlyAt b w w') (hB : B ≤ b) : Below B w w' := ⟨h.os, h.tape, h.output, Nat.le_of_eq h.size.symm, fun k hk => h.block k (by omega)⟩

set_option maxRecDepth 100000 in
set_option maxHeartbeats 1000000 in
theorem pcg35 (b h l : Nat) (w : World) (hl : l < 18446744073709551616) (hp : PcgAt w b h l) :
    Calls Try.prog 35 #[.pointer (some ⟨b, 0, none⟩)] w fun e w' => e = .returned (.int .u64 (outN (nxh h l) (nxl l) : Nat)) ∧ PcgAt w' b (nxh h l) (nxl l) ∧ OnlyAt b w w' := by
  have c36 := next36 b h l w hl (by have := hp.cell (i := 0) (by omega); simpa using this) (by have := hp.cell (i := 1) (by omega); simpa using this) (hp.frozen 0) (hp.frozen 1)
  have hb1 := nxh_lt h l
  have hb2 := nxl_lt l
  have HA : Hid (PcgAt ((w.setCell ⟨b, 1, none⟩ (.int .u64 (nxl l : Nat))).setCell ⟨b, 0, none⟩ (.int .u64 (nxh h l : Nat))) b (nxh h l) (nxl l)) :=
    ((hp.set 1 _).set 0 _).congr fun j hj => by
      match j, hj with
      | 0, _ => simp
      | 1, _ => simp
  generalize nxh h l = H at *
  generalize nxl l = L at *
  go_enter Try.func35, Try.ntmps35
  go_wp2_with fail
  refine c36.mono ?_
  rintro e w' ⟨rfl, q, rfl⟩
  clear c36
  have HO : Hid (OnlyAt b w (((w.setCell ⟨b, 1, none⟩ (.int .u64 (L : Nat))).setCell ⟨b, 0, none⟩ (.int .u64 (H : Nat))).drewN q)) := (((OnlyAt.refl b w).setCell b 1 _).setCell b 0 _).drewN q
  have HA2 : Hid (PcgAt (((w.setCell ⟨b, 1, none⟩ (.int .u64 (L : Nat))).setCell ⟨b, 0, none⟩ (.int .u64 (H : Nat))).drewN q) b H L) := HA.out
  clear HA
  generalize ((w.setCell ⟨b, 1, none⟩ (.int .u64 (L : Nat))).setCell ⟨b, 0, none⟩ (.int .u64 (H : Nat))).drewN q = w2 at HO HA2 ⊢
  go_wp2
  rw [outI_fold H L]
  generalize outN H L = o
  go_ret
  exact ⟨rfl, HA2.out, HO.out⟩

/-- a Rand over the PCG in block b -/
def RandAt (w : World) (rb b : Nat) : Prop := w.cell? ⟨rb, 0, none⟩ = some (.iface 38 (.pointer (some ⟨b, 0, none⟩)))

theorem method_u64 (a : Addr) (w : World) : (method 179 38 (.pointer (some a)) "Uint64").run Try.prog w = .ok (35, .pointer (some a)) w := by kernel_rfl

set_option maxRecDepth 100000 in
set_option maxHeartbeats 1000000 in
theorem rand14 (rb b h l : Nat) (w : World) (hl : l < 18446744073709551616) (hr : RandAt w rb b) (hp : PcgAt w b h l) :
    Calls Try.prog 14 #[.pointer (some ⟨rb, 0, none⟩)] w fun e w' => e = .returned (.int .u64 (outN (nxh h l) (nxl l) : Nat)) ∧ PcgAt w' b (nxh h l) (nxl l) ∧ OnlyAt b w w' := by
  have c35 := pcg35 b h l w hl hp
  unfold RandAt at hr
  have hm := method_u64 ⟨b, 0, none⟩ w
  generalize outN (nxh h l) (nxl l) = o at c35 ⊢
  go_enter Try.func14, Try.ntmps14
  go_wp2_with fail
  refine c35.mono ?_
  rintro e w' ⟨rfl, hp', ho'⟩
  go_wp2
  go_ret
  exact ⟨rfl, hp', ho'⟩

end Go.Proofs.Qxb6609202a
