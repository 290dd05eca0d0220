import Derived.Test.Qxb6609280aChecked
import Derived.Maps.AppendAt
import Derived.Lib.VarintMem
import Derived.Lib.Walk
import Derived.Lib.Slices
import Derived.OwnWalk
import Derived.WalkKit
import Derived.WalkSpells
import Derived.Below
namespace Go.Proofs.Qxb6609280a
open Go.RowKit

/-- the slice v is nil or owns a row of its own that reads the bytes bs -/
def Row (w : World) (v : Value) (bs : List UInt8) : Prop := w.ownsRow 0 5 1 v bs.length (Lib.byteCells bs)

/-- what an append leaves: the new slice, the one row that may have been written, where the new slice lies -/
structure App (w : World) (v : Value) (w' : World) (v' : Value) (bs : List UInt8) : Prop where
  row : Row w' v' bs
  grown : w.grownBy w' v.ownBlock
  loc : v'.ownBlock = v.ownBlock ∨ ∃ k, v'.ownBlock = some k ∧ w.heap.size ≤ k

theorem grown_step {w wr w1 : World} {r s : Option Nat} (h : w.grownBy wr r) (h1 : wr.grownBy w1 s) (hs : s = r ∨ ∃ k, s = some k ∧ w.heap.size ≤ k) : w.grownBy w1 r := by
  refine ⟨h1.os.trans h.os, h1.tape.trans h.tape, h1.output.trans h.output, Nat.le_trans h.size h1.size, fun k hk hne => ?_⟩
  rw [h1.block k (Nat.lt_of_lt_of_le hk h.size) ?_, h.block k hk hne]
  rcases hs with rfl | ⟨j, rfl, hj⟩
  · exact hne
  · intro e; cases e; omega

theorem App.trans {w w1 w2 : World} {v v1 v2 : Value} {b1 b2 : List UInt8} (h : App w v w1 v1 b1) (k : App w1 v1 w2 v2 b2) : App w v w2 v2 b2 := by
  refine ⟨k.row, grown_step h.grown k.grown h.loc, ?_⟩
  rcases k.loc with e | ⟨j, e, hj⟩
  · rw [e]; exact h.loc
  · exact .inr ⟨j, e, Nat.le_trans h.grown.size hj⟩

theorem App.refl {w : World} {v : Value} {b : List UInt8} (h : Row w v b) : App w v w v b :=
  ⟨h, ⟨rfl, rfl, rfl, Nat.le_refl _, fun _ _ _ => rfl⟩, .inl rfl⟩

/-- behind a block laid and one append -/
theorem App.one {w : World} {v : Value} {o : Obj} {w1 : World} {v1 : Value} {b : List UInt8} (hr : Row w1 v1 b) (hg : (w.alloc o).grownBy w1 v.ownBlock) (hl : v1.ownBlock = v.ownBlock ∨ v1.ownBlock = some (w.heap.size + 1)) : App w v w1 v1 b := by
  refine ⟨hr, grown_step (World.grownBy_alloc w o v.ownBlock) hg (.inl rfl), ?_⟩
  rcases hl with e | e
  · exact .inl e
  · exact .inr ⟨_, e, by omega⟩

/-- how such a function ends -/
def AppTo (w : World) (v : Value) (bs : List UInt8) (e : Ending) (w' : World) : Prop := ∃ v', e = .returned v' ∧ App w v w' v' bs

theorem AppTo.mk {w : World} {v : Value} {bs : List UInt8} {w' : World} {v' : Value} (h : App w v w' v' bs) : AppTo w v bs (.returned v') w' := ⟨v', rfl, h⟩

theorem row_nil (w : World) : Row w (.slice none 0 0) [] := World.ownsRow_nil w 0 5 1

theorem Try.info5 : (Try.prog.info? 5).map (fun i => (i.zero, i.size, i.bytes)) = some (some (.int .u8 0), 1, 1) := by kernel_rfl

set_option maxHeartbeats 8000000 in
set_option maxRecDepth 100000 in
theorem uvarint28 (x : Nat) (hx : x < 18446744073709551616) (v : Value) (bs : List UInt8) (w : World) (hown : Row w v bs) (hlim : bs.length + 10 ≤ 140737488355328) :
    Calls Try.prog 28 #[v, .int .u64 x] w fun e w' => AppTo w v (bs ++ Lib.uvarint x) e w' := by
  obtain ⟨i0, hi, hz0, hz1, hz2⟩ := info_parts Try.info5
  have hlen := Lib.uvarint_length64 hx
  go_enter Try.func28, Try.ntmps28
  go_wp2
  go_loopw [0, 1] (fun vb vx wr => ∃ (y : Nat) (pre : List UInt8), vx = .int .u64 y ∧ y ≤ x ∧ Lib.uvarint x = pre ++ Lib.uvarint y ∧ App w v wr vb (bs ++ pre))
    (fun _ vx _ => (intOf vx).toNat)
  case atStart => exact ⟨x, [], rfl, Nat.le_refl _, rfl, by rw [List.append_nil]; exact App.refl hown⟩
  case round =>
    obtain ⟨y, pre, rfl, hy, hsplit, hA⟩ := hrel
    have hpl : pre.length + (Lib.uvarint y).length ≤ 10 := by
      have h2 := congrArg List.length hsplit
      rw [List.length_append] at h2
      omega
    have hyp := Lib.uvarint_pos y
    have hbl : (bs ++ pre).length = bs.length + pre.length := List.length_append
    by_cases h128 : 128 ≤ y
    · have hor : bits .or .u8 ((y : Int) % 256) 128 = ((y % 128 + 128 : Nat) : Int) := by
        rw [Lib.u8_or128_any _ (by omega) (by omega)]
        omega
      go_wp2_with (at_builtin; refine wpList_append_own_at _ rfl _ _ 36 rfl 0 5 i0 (.int .u8 0) 1 1 Try.underlying36 hi hz0 hz1 hz2 rfl (by decide) _ _ _ rfl (hA.row.alloc _) ⟨wr.heap.size, 0, none⟩ 1 1 [Value.int .u8 ((y % 128 + 128 : Nat) : Int)] rfl rfl (cell_one_new _ _ _) (by intro u hu; simp at hu; subst hu; rfl) (by unfold maxLen; omega) (by omega) (Nat.zero_le _) ?_)
      intro v' w1 hown' hgrow _ hloc
      have hA1 : App w v w1 v' (bs ++ (pre ++ [(y % 128 + 128).toUInt8])) := by
        refine hA.trans (App.one ?_ hgrow hloc)
        show World.ownsRow _ _ _ _ _ _ _
        rw [← List.append_assoc, Lib.byteCells_snoc _ (by omega), List.length_append, List.length_singleton, hbl, show ((y % 128 + 128 : Nat) : Int) = (y : Int) % 128 + 128 by omega]
        exact hown'
      go_wp2
      go_roundw
      case rel => exact ⟨y / 128, pre ++ [(y % 128 + 128).toUInt8], by go_num, by omega, by rw [hsplit, Lib.uvarint_big h128]; simp, hA1⟩
      case measure => simp [intOf]; omega
    · have hsm : Lib.uvarint y = [y.toUInt8] := Lib.uvarint_small (by omega)
      go_wp2_with (at_builtin; refine wpList_append_own_at _ rfl _ _ 36 rfl 0 5 i0 (.int .u8 0) 1 1 Try.underlying36 hi hz0 hz1 hz2 rfl (by decide) _ _ _ rfl (hA.row.alloc _) ⟨wr.heap.size, 0, none⟩ 1 1 [Value.int .u8 (y : Int)] rfl rfl (cell_one_new _ _ _) (by intro u hu; simp at hu; subst hu; rfl) (by unfold maxLen; omega) (by omega) (Nat.zero_le _) ?_)
      intro v' w1 hown' hgrow _ hloc
      have hA1 : App w v w1 v' (bs ++ Lib.uvarint x) := by
        refine hA.trans (App.one ?_ hgrow hloc)
        show World.ownsRow _ _ _ _ _ _ _
        rw [hsplit, hsm, ← List.append_assoc, Lib.byteCells_snoc _ (by omega), List.length_append, List.length_singleton, hbl]
        exact hown'
      go_wp2
      go_ret
      exact AppTo.mk hA1

/-- a varint field -/
def au (f x : Nat) (bs : List UInt8) : List UInt8 := if x = 0 then bs else bs ++ Lib.uvarint (f * 8) ++ Lib.uvarint x
/-- a length-delimited field -/
def ab (f : Nat) (d bs : List UInt8) : List UInt8 := bs ++ Lib.uvarint (f * 8 + 2) ++ Lib.uvarint d.length ++ d

def Small (f : Nat) : Prop := f = 1 ∨ f = 2 ∨ f = 3 ∨ f = 4 ∨ f = 5 ∨ f = 6

theorem au_zero (f : Nat) (bs : List UInt8) : au f 0 bs = bs := if_pos rfl
theorem au_pos {f x : Nat} (bs : List UInt8) (h : x ≠ 0) : au f x bs = bs ++ Lib.uvarint (f * 8) ++ Lib.uvarint x := if_neg h

theorem au_length (f x : Nat) (bs : List UInt8) (hf : f < 1000) (hx : x < 18446744073709551616) : (au f x bs).length ≤ bs.length + 20 := by
  unfold au
  split
  · omega
  · have h1 := Lib.uvarint_length64 (x := f * 8) (by omega)
    have h2 := Lib.uvarint_length64 hx
    rw [List.length_append, List.length_append]
    omega

theorem ab_length (f : Nat) (d bs : List UInt8) (hf : f < 1000) (hx : d.length < 18446744073709551616) : (ab f d bs).length ≤ bs.length + d.length + 20 := by
  unfold ab
  have h1 := Lib.uvarint_length64 (x := f * 8 + 2) (by omega)
  have h2 := Lib.uvarint_length64 hx
  rw [List.length_append, List.length_append, List.length_append]
  omega

set_option maxHeartbeats 8000000 in
set_option maxRecDepth 100000 in
theorem appendUint25 (f x : Nat) (hf : Small f) (hx : x < 18446744073709551616) (v : Value) (bs : List UInt8) (w : World) (hown : Row w v bs) (hlim : bs.length + 20 ≤ 140737488355328) :
    Calls Try.prog 25 #[v, .int .i64 f, .int .u64 x] w fun e w' => AppTo w v (au f x bs) e w' := by
  by_cases h0 : x = 0
  · subst h0
    rw [au_zero]
    go_enter Try.func25, Try.ntmps25
    go_wp2
    go_ret
    exact AppTo.mk (App.refl hown)
  · rw [au_pos bs h0]
    have hb : ((x : Int) == 0) = false := by simp; omega
    rcases hf with rfl | rfl | rfl | rfl | rfl | rfl
    · have c1 := uvarint28 8 (by decide) v bs w hown (by omega)
      go_enter Try.func25, Try.ntmps25
      go_wp2_with fail
      refine c1.mono ?_
      rintro e w1 ⟨v1, rfl, hA⟩
      have hl := Lib.uvarint_length64 (x := 8) (by decide)
      have c2 := uvarint28 x hx v1 _ w1 hA.row (by rw [List.length_append]; omega)
      go_wp2_with fail
      refine c2.mono ?_
      rintro e w2 ⟨v2, rfl, hA2⟩
      have hA3 := hA.trans hA2
      clear hA hA2 c1 c2
      go_wp2
      go_ret
      exact AppTo.mk hA3
    · have c1 := uvarint28 16 (by decide) v bs w hown (by omega)
      go_enter Try.func25, Try.ntmps25
      go_wp2_with fail
      refine c1.mono ?_
      rintro e w1 ⟨v1, rfl, hA⟩
      have hl := Lib.uvarint_length64 (x := 16) (by decide)
      have c2 := uvarint28 x hx v1 _ w1 hA.row (by rw [List.length_append]; omega)
      go_wp2_with fail
      refine c2.mono ?_
      rintro e w2 ⟨v2, rfl, hA2⟩
      have hA3 := hA.trans hA2
      clear hA hA2 c1 c2
      go_wp2
      go_ret
      exact AppTo.mk hA3
    · have c1 := uvarint28 24 (by decide) v bs w hown (by omega)
      go_enter Try.func25, Try.ntmps25
      go_wp2_with fail
      refine c1.mono ?_
      rintro e w1 ⟨v1, rfl, hA⟩
      have hl := Lib.uvarint_length64 (x := 24) (by decide)
      have c2 := uvarint28 x hx v1 _ w1 hA.row (by rw [List.length_append]; omega)
      go_wp2_with fail
      refine c2.mono ?_
      rintro e w2 ⟨v2, rfl, hA2⟩
      have hA3 := hA.trans hA2
      clear hA hA2 c1 c2
      go_wp2
      go_ret
      exact AppTo.mk hA3
    · have c1 := uvarint28 32 (by decide) v bs w hown (by omega)
      go_enter Try.func25, Try.ntmps25
      go_wp2_with fail
      refine c1.mono ?_
      rintro e w1 ⟨v1, rfl, hA⟩
      have hl := Lib.uvarint_length64 (x := 32) (by decide)
      have c2 := uvarint28 x hx v1 _ w1 hA.row (by rw [List.length_append]; omega)
      go_wp2_with fail
      refine c2.mono ?_
      rintro e w2 ⟨v2, rfl, hA2⟩
      have hA3 := hA.trans hA2
      clear hA hA2 c1 c2
      go_wp2
      go_ret
      exact AppTo.mk hA3
    · have c1 := uvarint28 40 (by decide) v bs w hown (by omega)
      go_enter Try.func25, Try.ntmps25
      go_wp2_with fail
      refine c1.mono ?_
      rintro e w1 ⟨v1, rfl, hA⟩
      have hl := Lib.uvarint_length64 (x := 40) (by decide)
      have c2 := uvarint28 x hx v1 _ w1 hA.row (by rw [List.length_append]; omega)
      go_wp2_with fail
      refine c2.mono ?_
      rintro e w2 ⟨v2, rfl, hA2⟩
      have hA3 := hA.trans hA2
      clear hA hA2 c1 c2
      go_wp2
      go_ret
      exact AppTo.mk hA3
    · have c1 := uvarint28 48 (by decide) v bs w hown (by omega)
      go_enter Try.func25, Try.ntmps25
      go_wp2_with fail
      refine c1.mono ?_
      rintro e w1 ⟨v1, rfl, hA⟩
      have hl := Lib.uvarint_length64 (x := 48) (by decide)
      have c2 := uvarint28 x hx v1 _ w1 hA.row (by rw [List.length_append]; omega)
      go_wp2_with fail
      refine c2.mono ?_
      rintro e w2 ⟨v2, rfl, hA2⟩
      have hA3 := hA.trans hA2
      clear hA hA2 c1 c2
      go_wp2
      go_ret
      exact AppTo.mk hA3

set_option maxHeartbeats 8000000 in
set_option maxRecDepth 100000 in
theorem appendInt24 (f x : Nat) (hf : Small f) (hx : x < 9223372036854775808) (v : Value) (bs : List UInt8) (w : World) (hown : Row w v bs) (hlim : bs.length + 20 ≤ 140737488355328) :
    Calls Try.prog 24 #[v, .int .i64 f, .int .i64 x] w fun e w' => AppTo w v (au f x bs) e w' := by
  have c1 := appendUint25 f x hf (by omega) v bs w hown hlim
  go_enter Try.func24, Try.ntmps24
  go_wp2_with fail
  refine c1.mono ?_
  rintro e w1 ⟨v1, rfl, hA⟩
  clear c1
  go_wp2
  go_ret
  exact AppTo.mk hA

/-- an int64 as the varint has it -/
def u64 (z : Int) : Nat := (z % 18446744073709551616).toNat
theorem u64_lt (z : Int) : u64 z < 18446744073709551616 := by unfold u64; omega
theorem u64_int (z : Int) : ((u64 z : Nat) : Int) = z % 18446744073709551616 := by unfold u64; omega

set_option maxHeartbeats 8000000 in
set_option maxRecDepth 100000 in
theorem appendLine24 (f : Nat) (z : Int) (hf : Small f) (v : Value) (bs : List UInt8) (w : World) (hown : Row w v bs) (hlim : bs.length + 20 ≤ 140737488355328) :
    Calls Try.prog 24 #[v, .int .i64 f, .int .i64 z] w fun e w' => AppTo w v (au f (u64 z) bs) e w' := by
  have c1 := appendUint25 f (u64 z) hf (u64_lt z) v bs w hown hlim
  rw [u64_int] at c1
  go_enter Try.func24, Try.ntmps24
  go_wp2_with fail
  refine c1.mono ?_
  rintro e w1 ⟨v1, rfl, hA⟩
  clear c1
  go_wp2
  go_ret
  exact AppTo.mk hA

end Go.Proofs.Qxb6609280a
