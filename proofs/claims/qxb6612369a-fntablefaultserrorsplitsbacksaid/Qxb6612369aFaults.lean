import Derived.Test.Qxb6612369aErr
import Derived.Lib.Join
namespace Go.Proofs.Qxb6612369a
open Go.RowKit

theorem Try.info9 : (Try.prog.info? 9).map (fun i => (i.zero, i.size, i.bytes)) = some (some (.string ⟨#[]⟩), 1, 16) := by kernel_rfl
theorem Try.info40 : (Try.prog.info? 40).map (fun i => (i.zero, i.size, i.bytes)) = some (some .nilIface, 1, 16) := by kernel_rfl

/-- The messages joined by a semicolon and a blank. -/
def jn (S : Nat → ByteArray) (n : Nat) : List UInt8 := Lib.join ((List.range n).map fun i => (S i).data.toList) [59, 32]

def JoinSaid : Prop := ∀ (bk n : Nat) (S : Nat → ByteArray) (w : World), (∀ j, j < n → w.cell? ⟨bk, j, none⟩ = some (.string (S j))) → bk < w.heap.size → n ≤ 65536 → (jn S n).length ≤ 140737488355328 →
  Calls Try.prog 28 #[.slice (some ⟨bk, 0, none⟩) n n, .string ⟨#[59, 32]⟩] w fun e w' => e = .returned (.string ⟨(jn S n).toArray⟩) ∧ Below w.heap.size w w'

theorem method_error (a : Addr) (w : World) : (method 226 69 (.pointer (some a)) "Error").run Try.prog w = .ok (66, .pointer (some a)) w := by kernel_rfl

/-- the strings laid so far -/
def upTo (S : Nat → ByteArray) (k : Nat) (j : Nat) : Value := if j < k then .string (S j) else .string ⟨#[]⟩

theorem upTo_step {w : World} {b n k : Nat} {S : Nat → ByteArray} (h : w.rowIs b 9 n (upTo S k)) : (w.setCell ⟨b, k, none⟩ (.string (S k))).rowIs b 9 n (upTo S (k + 1)) :=
  (h.set k _).congr fun j _ => by
    unfold upTo
    by_cases e : j = k
    · subst e; simp
    · rw [if_neg e]
      by_cases hlt : j < k
      · rw [if_pos hlt, if_pos (by omega)]
      · rw [if_neg hlt, if_neg (by omega)]

set_option maxRecDepth 100000 in
set_option maxHeartbeats 400000 in
theorem faultsError (hj : JoinSaid) (a : Option Addr) (n c : Nat) (S : Nat → ByteArray) (E : Nat → Nat) (w : World) (hn : n ≤ 65536)
    (hr : Rd w a n (fun i => .iface 69 (.pointer (some ⟨E i, 0, none⟩)))) (hE : ∀ i, i < n → w.cell? ⟨E i, 0, none⟩ = some (.string (S i))) (hl : (jn S n).length ≤ 140737488355328) :
    Calls Try.prog 22 #[.slice a n c] w fun e w' => e = .returned (.string ⟨(jn S n).toArray⟩) ∧ Below w.heap.size w w' := by
  obtain ⟨b, o, ha, hc⟩ := hr
  have hmk := run_make_row' (P := Try.prog) 22 9 (.string ⟨#[]⟩) 16 Try.underlying22 Try.info9 rfl .i64 .i64 n (by omega) (by omega)
  go_enter Try.func22, Try.ntmps22
  go_wp2
  clear hmk
  go_loopw [11] (fun i wr => ∃ k : Nat, k ≤ n ∧ i = .int .i64 k ∧ Below w.heap.size w wr ∧ wr.rowIs w.heap.size 9 n (upTo S k)) (fun i _ => n - (intOf i).toNat)
  case atStart => exact ⟨0, Nat.zero_le _, rfl, (Below.refl _ _).alloc (Nat.le_refl _) _, (World.rowIs_made w _ n 9).congr (fun j _ => by simp [upTo])⟩
  case round =>
    obtain ⟨k, hk, rfl, hb, hrow⟩ := hrel
    by_cases hlt : k < n
    · obtain rfl := ha (by omega)
      have hck := hc k hlt
      have hEk := hE k hlt
      have c1 : wr.cell? ⟨b, o + k, none⟩ = some (.iface 69 (.pointer (some ⟨E k, 0, none⟩))) := by
        rw [hb.cell (p := ⟨b, o + k, none⟩) (World.block_lt_of_cell? _ _ hck)]; exact hck
      have c2 : wr.cell? ⟨E k, 0, none⟩ = some (.string (S k)) := by
        rw [hb.cell (p := ⟨E k, 0, none⟩) (World.block_lt_of_cell? _ _ hEk)]; exact hEk
      have c3 : wr.cell? ⟨w.heap.size, k, none⟩ = some (upTo S k k) := hrow.cell hlt
      have c4 : wr.frozen? ⟨w.heap.size, k, none⟩ = false := hrow.frozen k
      have hm := method_error ⟨E k, 0, none⟩ wr
      clear hc hE hck hEk
      go_wp2_with (go_at_call 66; refine (errError _ _ _ c2).mono ?_; rintro e w' ⟨rfl, rfl⟩)
      go_roundw
      case rel => exact ⟨k + 1, by omega, by go_num, hb.setCell (Nat.le_refl _) _, upTo_step hrow⟩
      case measure => simp [intOf]; omega
    · obtain rfl : k = n := by omega
      go_wp2_with fail
      refine (hj w.heap.size k S wr (fun j hj => by rw [hrow.cell hj]; simp [upTo, hj]) hrow.lt hn hl).mono ?_
      rintro e w' ⟨rfl, hb'⟩
      go_wp2
      go_ret
      exact ⟨rfl, hb.trans (hb'.mono hb.size)⟩

end Go.Proofs.Qxb6612369a
