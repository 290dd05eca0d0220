import Derived.Test.Qxb6609202aIntn
namespace Go.Proofs.Qxb6609202a
open Go.RowKit

theorem u64n12 (rb b h l n v h' l' : Nat) (w : World) (hrb : rb ≠ b) (h1 : 1 ≤ n) (h2 : n ≤ 65536) (hl : l < 18446744073709551616) (hr : RandAt w rb b) (hp : PcgAt w b h l) (hd : DrawIs n h l v h' l') :
    Calls Try.prog 12 #[.pointer (some ⟨rb, 0, none⟩), .int .u64 n] w fun e w' => e = .returned (.int .u64 v) ∧ PcgAt w' b h' l' ∧ OnlyAt b w w' := by
  cases hpw : pw n with
  | true => exact u64n12_pow rb b h l n v h' l' w h1 h2 hl hr hp hpw hd
  | false => exact u64n12_not rb b h l n v h' l' w hrb h1 h2 hl hr hp hpw hd

set_option maxRecDepth 100000 in
set_option maxHeartbeats 1000000 in
theorem intn11 (rb b h l n v h' l' : Nat) (w : World) (hrb : rb ≠ b) (h1 : 1 ≤ n) (h2 : n ≤ 65536) (hl : l < 18446744073709551616) (hr : RandAt w rb b) (hp : PcgAt w b h l) (hd : DrawIs n h l v h' l') :
    Calls Try.prog 11 #[.pointer (some ⟨rb, 0, none⟩), .int .i64 n] w fun e w' => e = .returned (.int .i64 v) ∧ PcgAt w' b h' l' ∧ OnlyAt b w w' := by
  have c12 := u64n12 rb b h l n v h' l' w hrb h1 h2 hl hr hp hd
  have hv := (draw_bd h1 hd).1
  clear hd hp hr
  go_enter Try.func11, Try.ntmps11
  go_wp2_with fail
  refine c12.mono ?_
  rintro e w' ⟨rfl, hp', ho'⟩
  go_wp2
  go_ret
  exact ⟨rfl, hp', ho'⟩

/-- the peer that a draw v names, the sender left out -/
def tg (v u : Nat) : Nat := if u ≤ v then v + 1 else v

set_option maxRecDepth 100000 in
set_option maxHeartbeats 1000000 in
theorem target10 (pb u rb b h l n v h' l' : Nat) (w : World) (hrb : rb ≠ b) (h1 : 1 ≤ n) (h2 : n ≤ 65536) (hl : l < 18446744073709551616) (hr : RandAt w rb b) (hp : PcgAt w b h l) (hd : DrawIs n h l v h' l')
    (hpc : w.cell? ⟨pb, 0, none⟩ = some (.int .i64 ((n : Int) + 1))) :
    Calls Try.prog 10 #[.pointer (some ⟨pb, 0, none⟩), .int .i64 u, .pointer (some ⟨rb, 0, none⟩)] w fun e w' => e = .returned (.int .i64 (tg v u : Nat)) ∧ PcgAt w' b h' l' ∧ OnlyAt b w w' := by
  have c11 := intn11 rb b h l n v h' l' w hrb h1 h2 hl hr hp hd
  have hv := (draw_bd h1 hd).1
  clear hd hp hr
  by_cases huv : u ≤ v
  · have HT : Hid (tg v u = v + 1) := by show _ = _; unfold tg; rw [if_pos huv]
    go_enter Try.func10, Try.ntmps10
    go_wp2_with fail
    refine c11.mono ?_
    rintro e w' ⟨rfl, hp', ho'⟩
    go_wp2
    go_ret
    exact ⟨by rw [HT.out]; rfl, hp', ho'⟩
  · have HT : Hid (tg v u = v) := by show _ = _; unfold tg; rw [if_neg huv]
    go_enter Try.func10, Try.ntmps10
    go_wp2_with fail
    refine c11.mono ?_
    rintro e w' ⟨rfl, hp', ho'⟩
    go_wp2
    go_ret
    exact ⟨by rw [HT.out]; rfl, hp', ho'⟩

set_option maxHeartbeats 400000 in
theorem newRand6 (s1 s2 : Nat) (w : World) :
    Calls Try.prog 6 #[.int .u64 s1, .int .u64 s2] w fun e w' => e = .returned (.pointer (some ⟨w.heap.size + 1, 0, none⟩)) ∧ w'.heap.size = w.heap.size + 2 ∧ RandAt w' (w.heap.size + 1) w.heap.size ∧ PcgAt w' w.heap.size s1 s2 ∧ Below w.heap.size w w' := by
  go_enter Try.func6, Try.ntmps6
  go_wp2
  go_ret
  refine ⟨rfl, by simp, ?_, ?_, ((Below.refl _ _).alloc (Nat.le_refl _) _).alloc (by simp) _⟩
  · unfold RandAt
    rw [show w.heap.size + 1 = (w.alloc (.cells #[.int .u64 s1, .int .u64 s2] 46)).heap.size by simp, World.cell?_alloc_new]; rfl
  · refine (World.rowIs_alloc w #[.int .u64 s1, .int .u64 s2] 46 _ fun i hi => ?_).alloc _
    match i, hi with
    | 0, _ => rfl
    | 1, _ => rfl

end Go.Proofs.Qxb6609202a
