import Derived.Test.Qxb6612369aFaults
import Derived.WalkSpells
namespace Go.Proofs.Qxb6612369a
open Go.RowKit

/-- the errors laid so far: one block each, behind block F -/
def errTo (F k : Nat) (j : Nat) : Value := if j < k then .iface 69 (.pointer (some ⟨F + 1 + j, 0, none⟩)) else .nilIface

theorem errTo_step {w : World} {b F n k : Nat} (h : w.rowIs b 40 n (errTo F k)) : (w.setCell ⟨b, k, none⟩ (.iface 69 (.pointer (some ⟨F + 1 + k, 0, none⟩)))).rowIs b 40 n (errTo F (k + 1)) :=
  (h.set k _).congr fun j _ => by
    unfold errTo
    by_cases e : j = k
    · subst e; simp
    · rw [if_neg e]
      by_cases hlt : j < k
      · rw [if_pos hlt, if_pos (by omega)]
      · rw [if_neg hlt, if_neg (by omega)]

structure Errs (w wr : World) (n : Nat) (S : Nat → ByteArray) (k : Nat) : Prop where
  below : Below w.heap.size w wr
  size : wr.heap.size = w.heap.size + 1 + k
  row : wr.rowIs w.heap.size 40 n (errTo w.heap.size k)
  done : ∀ j, j < k → wr.cell? ⟨w.heap.size + 1 + j, 0, none⟩ = some (.string (S j))

theorem errs_start (w : World) (n : Nat) (S : Nat → ByteArray) : Errs w (w.alloc (.cells (madeCells #[.nilIface] n) 40)) n S 0 :=
  ⟨(Below.refl _ _).alloc (Nat.le_refl _) _, by simp, (World.rowIs_made w _ n 40).congr (fun j _ => by simp [errTo]), fun j hj => absurd hj (Nat.not_lt_zero _)⟩

theorem errs_step {w wr : World} {n : Nat} {S : Nat → ByteArray} {k : Nat} (h : Errs w wr n S k) :
    Errs w ((wr.alloc (.cells #[.string (S k)] 71)).setCell ⟨w.heap.size, k, none⟩ (.iface 69 (.pointer (some ⟨wr.heap.size, 0, none⟩)))) n S (k + 1) := by
  have hs := h.size
  refine ⟨(h.below.alloc (by omega) _).setCell (Nat.le_refl _) _, by simp [hs]; omega, ?_, fun j hj => ?_⟩
  · rw [hs]; exact errTo_step (h.row.alloc _)
  · rw [World.cell?_setCell_other _ _ _ _ (fun e => by have := congrArg Addr.block e; simp at this; omega)]
    by_cases e : j = k
    · subst e
      rw [← hs, World.cell?_alloc_new]; rfl
    · rw [World.cell?_alloc_old _ _ _ (by show w.heap.size + 1 + j ≠ wr.heap.size; omega)]
      exact h.done j (by omega)

set_option maxRecDepth 100000 in
set_option maxHeartbeats 400000 in
theorem zzFaults_some (hj : JoinSaid) (b0 o0 : Nat) (n c : Nat) (S : Nat → ByteArray) (w : World) (hn : n ≤ 65536)
    (hr : Rd w (some ⟨b0, o0, none⟩) n (fun i => .string (S i))) (hl : (jn S n).length ≤ 140737488355328) :
    Calls Try.prog 10 #[.slice (some ⟨b0, o0, none⟩) n c] w fun e w' => e = .returned (.string ⟨(jn S n).toArray⟩) ∧ Below w.heap.size w w' := by
  obtain ⟨b, o, ha, hc⟩ := hr
  have hmk := run_make_row' (P := Try.prog) 38 40 .nilIface 16 Try.underlying38 Try.info40 rfl .i64 .i64 n (by omega) (by omega)
  have hne := fun w => run_neq_slice_nil_any (P := Try.prog) w 22 9 (some ⟨b0, o0, none⟩) n c 0 0 Try.underlying22
  go_enter Try.func10, Try.ntmps10
  go_wp2
  clear hmk hne
  go_loopw [13] (fun i wr => ∃ k : Nat, k ≤ n ∧ i = .int .i64 k ∧ Errs w wr n S k) (fun i _ => n - (intOf i).toNat)
  case atStart => exact ⟨0, Nat.zero_le _, rfl, errs_start w n S⟩
  case round =>
    obtain ⟨k, hk, rfl, hE⟩ := hrel
    by_cases hlt : k < n
    · obtain ⟨rfl, rfl⟩ : b0 = b ∧ o0 = o := by have := ha (by omega); simpa using this
      have hck := hc k hlt
      have hblt := World.block_lt_of_cell? _ _ hck
      have c1 : wr.cell? ⟨b0, o0 + k, none⟩ = some (.string (S k)) := by
        rw [hE.below.cell (p := ⟨b0, o0 + k, none⟩) hblt]; exact hck
      have c3 : ∀ ob, (wr.alloc ob).cell? ⟨w.heap.size, k, none⟩ = some (errTo w.heap.size k k) := fun ob => (hE.row.alloc ob).cell hlt
      have c4 : ∀ ob, (wr.alloc ob).frozen? ⟨w.heap.size, k, none⟩ = false := fun ob => (hE.row.alloc ob).frozen k
      clear hc hck ha
      go_wp2_with (go_at_call 21; refine (errNew _ _).mono ?_; rintro e w' ⟨rfl, rfl⟩)
      go_roundw
      case rel => exact ⟨k + 1, by omega, by go_num, errs_step hE⟩
      case measure => simp [intOf]; omega
    · obtain rfl : k = n := by omega
      go_wp2_with fail
      refine (faultsError hj (some ⟨w.heap.size, 0, none⟩) k k S (fun i => w.heap.size + 1 + i) wr hn ((Rd.ofRow hE.row).congr fun i hi => by simp [errTo, hi]) hE.done hl).mono ?_
      rintro e w' ⟨rfl, hb'⟩
      go_wp2
      go_ret
      exact ⟨rfl, hE.below.trans (hb'.mono hE.below.size)⟩

set_option maxRecDepth 100000 in
set_option maxHeartbeats 400000 in
theorem zzFaults_nil (hj : JoinSaid) (S : Nat → ByteArray) (w : World) :
    Calls Try.prog 10 #[.slice none 0 0] w fun e w' => e = .returned (.string ⟨(jn S 0).toArray⟩) ∧ Below w.heap.size w w' := by
  have hne := fun w => run_neq_slice_nil_any (P := Try.prog) w 22 9 none 0 0 0 0 Try.underlying22
  go_enter Try.func10, Try.ntmps10
  go_wp2_with fail
  refine (faultsError hj none 0 0 S (fun i => i) w (by omega) ⟨0, 0, by omega, by omega⟩ (by omega) (by simp [jn, Lib.join, List.intercalate])).mono ?_
  rintro e w' ⟨rfl, hb'⟩
  go_wp2
  go_ret
  exact ⟨rfl, hb'⟩

end Go.Proofs.Qxb6612369a
