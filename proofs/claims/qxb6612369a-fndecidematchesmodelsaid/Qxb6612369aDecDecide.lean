import Derived.Test.Qxb6612369aDecPick
import Derived.Test.Qxb6612369aCopy
import Derived.WalkSpells
namespace Go.Proofs.Qxb6612369a
open Go.RowKit

theorem Try.info55 : (Try.prog.info? 55).map (fun i => (i.zero, i.size, i.bytes)) = some (some (.int .i64 0), 1, 8) := by kernel_rfl
theorem Try.cell55 : (Try.prog.info? 55).map (·.size) = some 1 := by kernel_rfl

set_option maxHeartbeats 400000 in
theorem answer_no {cb n : Nat} (w : World) (pa : Option Addr) (pc : Nat) (P : Nat → Int) (hn : n ≤ 131072) (hP : Rd w pa n (fun j => .int .i64 (P j))) (hf : nFail P n ≠ 1) :
    Calls Try.prog 31 #[.pointer (some ⟨cb, 0, none⟩), .slice pa n pc] w fun e w' => e = .returned (.slice none 0 0) ∧ w' = w := by
  have hf' : (((nFail P n : Nat) : Int) != 1) = true := by rw [bne_iff_ne]; omega
  go_enter Try.func31, Try.ntmps31
  go_wp2_with (go_at_call 29; refine (failures29 _ _ _ P _ (by omega) hP).mono ?_; rintro e w' ⟨rfl, rfl⟩)
  go_ret
  exact ⟨rfl, rfl⟩

set_option maxHeartbeats 400000 in
theorem answer_one {cb n m sb : Nat} {Q : Nat → Option Addr} {ta : Option Addr} {tc : Nat} {TA : Nat → Option Addr} {TC : Nat → Nat} {R : Nat → Nat → Int} (w : World) (hC : CompIs w cb n m sb Q ta tc TA TC R)
    (pa : Option Addr) (pc : Nat) (P : Nat → Int) (hn : n ≤ 131072) (hm : m ≤ 65536) (hP : Rd w pa n (fun j => .int .i64 (P j))) (hf : nFail P n = 1) :
    Calls Try.prog 31 #[.pointer (some ⟨cb, 0, none⟩), .slice pa n pc] w fun e w' =>
      e = .returned (pickV TA TC n (pickTo P R (fitTo (fun k => allTo (fun i => fs (Q i).isSome (P i) (R k i)) n) m) n)) ∧ Below w.heap.size w w' := by
  have c37 := pick37 w hC pa pc P hn hm hP
  have c29 := failures29 pa n pc P w (by omega) hP
  rw [hf] at c29
  generalize pickV TA TC n (pickTo P R (fitTo (fun k => allTo (fun i => fs (Q i).isSome (P i) (R k i)) n) m) n) = pv at c37 ⊢
  go_enter Try.func31, Try.ntmps31
  go_wp2_with fail
  refine c29.mono ?_
  rintro e w' ⟨rfl, rfl⟩
  go_wp2_with fail
  refine c37.mono ?_
  rintro e w' ⟨rfl, hb⟩
  go_wp2
  go_ret
  exact ⟨rfl, hb⟩

/-- the first k hold v, the rest 0 -/
def uptoI (f : Nat → Int) (k j : Nat) : Value := if j < k then .int .i64 (f j) else .int .i64 0

theorem uptoI_step {w : World} {b n k : Nat} {t : TypeId} {f : Nat → Int} (h : w.rowIs b t n (uptoI f k)) : (w.setCell ⟨b, k, none⟩ (.int .i64 (f k))).rowIs b t n (uptoI f (k + 1)) :=
  (h.set k _).congr fun j _ => by
    unfold uptoI
    by_cases e : j = k
    · subst e; simp
    · rw [if_neg e]
      by_cases hlt : j < k
      · rw [if_pos hlt, if_pos (by omega)]
      · rw [if_neg hlt, if_neg (by omega)]

def anyTo (q : Nat → Bool) : Nat → Bool
  | 0 => false
  | n + 1 => anyTo q n || q n

/-- is the end accepted in which all completed, by the first k rows -/
def accZ (m : Nat) (q : Nat → Bool) (k : Nat) : Bool := m == 0 || anyTo q k
theorem accZ_zero (m : Nat) (q : Nat → Bool) : accZ m q 0 = ((m : Int) == 0) := by
  unfold accZ anyTo
  by_cases h : m = 0
  · subst h; rfl
  · have h' : (m : Int) ≠ 0 := by omega
    rw [beq_eq_false_iff_ne.2 h', beq_eq_false_iff_ne.2 h]; rfl
theorem accZ_succ (m : Nat) (q : Nat → Bool) (k : Nat) : accZ m q (k + 1) = (accZ m q k || q k) := by simp [accZ, anyTo, Bool.or_assoc]

/-- decide's own memory: the result's two cells, the row of states -/
structure Dec (w wr : World) (n : Nat) (f : Nat → Value) : Prop where
  below : Below w.heap.size w wr
  res : wr.rowIs w.heap.size 59 2 (fun j => if j = 0 then .slice none 0 0 else .bool false)
  row : wr.rowIs (w.heap.size + 1) 55 n f

theorem dec_start (w : World) (n : Nat) (f : Nat → Int) : Dec w ((w.alloc (.cells #[.slice none 0 0, .bool false] 59)).alloc (.cells (madeCells #[.int .i64 0] n) 55)) n (uptoI f 0) := by
  refine ⟨((Below.refl _ _).alloc (Nat.le_refl _) _).alloc (by simp) _, ?_, ?_⟩
  · refine (World.rowIs_alloc w #[.slice none 0 0, .bool false] 59 _ fun i hi => ?_).alloc _
    match i, hi with
    | 0, _ => rfl
    | 1, _ => rfl
  · have := World.rowIs_made (w.alloc (.cells #[.slice none 0 0, .bool false] 59)) (.int .i64 0) n 55
    rw [World.size_alloc] at this
    exact this.congr fun j _ => by simp [uptoI]

theorem Dec.step {w wr : World} {n k : Nat} {f : Nat → Int} (h : Dec w wr n (uptoI f k)) : Dec w (wr.setCell ⟨w.heap.size + 1, k, none⟩ (.int .i64 (f k))) n (uptoI f (k + 1)) :=
  ⟨h.below.setCell (by show w.heap.size ≤ w.heap.size + 1; omega) _, h.res.setOther (by show w.heap.size ≠ w.heap.size + 1; omega) _, uptoI_step h.row⟩

theorem Dec.on {w wr w' : World} {n : Nat} {f : Nat → Value} (h : Dec w wr n f) (hb : Below wr.heap.size wr w') : Dec w w' n f :=
  ⟨h.below.trans (hb.mono h.below.size), h.res.of_block (hb.block _ h.res.lt), h.row.of_block (hb.block _ h.row.lt)⟩

theorem Dec.done {w wr : World} {n : Nat} {f : Nat → Int} (h : Dec w wr n (uptoI f n)) : Dec w wr n (fun i => .int .i64 (f i)) :=
  ⟨h.below, h.res, h.row.congr fun i hi => by simp [uptoI, hi]⟩

theorem Dec.store {w wr : World} {n : Nat} {f : Nat → Value} (h : Dec w wr n f) (a b : Value) :
    ((wr.setCell ⟨w.heap.size, 0, none⟩ a).setCell ⟨w.heap.size, 1, none⟩ b).rowIs (w.heap.size + 1) 55 n f ∧ Below w.heap.size w ((wr.setCell ⟨w.heap.size, 0, none⟩ a).setCell ⟨w.heap.size, 1, none⟩ b) ∧
    ((wr.setCell ⟨w.heap.size, 0, none⟩ a).setCell ⟨w.heap.size, 1, none⟩ b).cell? ⟨w.heap.size, 0, none⟩ = some a ∧ ((wr.setCell ⟨w.heap.size, 0, none⟩ a).setCell ⟨w.heap.size, 1, none⟩ b).cell? ⟨w.heap.size, 1, none⟩ = some b := by
  refine ⟨(h.row.setOther (by show w.heap.size + 1 ≠ w.heap.size; omega) _).setOther (by show w.heap.size + 1 ≠ w.heap.size; omega) _, (h.below.setCell (Nat.le_refl _) _).setCell (Nat.le_refl _) _, ?_, ?_⟩
  · have := ((h.res.set 0 a).set 1 b).cell (i := 0) (by omega)
    simpa using this
  · have := ((h.res.set 0 a).set 1 b).cell (i := 1) (by omega)
    simpa using this

set_option maxRecDepth 100000 in
set_option maxHeartbeats 1000000 in
theorem dec_zero {cb n m sb : Nat} {Q : Nat → Option Addr} {ta : Option Addr} {tc : Nat} {TA : Nat → Option Addr} {TC : Nat → Nat} {R : Nat → Nat → Int} (w : World) (hC : CompIs w cb n m sb Q ta tc TA TC R)
    (pa : Option Addr) (pc : Nat) (P : Nat → Int) (hn : n ≤ 131072) (hm : m ≤ 65536) (hP : Rd w pa n (fun j => .int .i64 (P j))) (hf : nFail P n = 0) :
    Calls Try.prog 23 #[.pointer (some ⟨cb, 0, none⟩), .slice pa n pc] w fun e w' =>
      e = .returned (.agg #[.slice (some ⟨w.heap.size + 1, 0, none⟩) n n, .bool (accZ m (fun k => allTo (fun i => R k i == 1) n) m)]) ∧ w'.rowIs (w.heap.size + 1) 55 n (fun _ => .int .i64 1) ∧ Below w.heap.size w w' := by
  have hmk := run_make_row' (P := Try.prog) 54 55 (.int .i64 0) 8 Try.underlying54 Try.info55 rfl .i64 .i64 n (by omega) (by omega)
  have hbA : ∀ ob, Below w.heap.size w (w.alloc ob) := fun ob => (Below.refl _ _).alloc (Nat.le_refl _) _
  have c29 := fun ob => failures29 pa n pc P (w.alloc ob) (by omega) (hP.below (hbA ob) (Nat.le_refl _))
  rw [hf] at c29
  go_enter Try.func23, Try.ntmps23
  go_wp2_with fail
  refine (c29 _).mono ?_
  rintro e w' ⟨rfl, rfl⟩
  go_wp2
  clear hmk c29 hbA hP
  go_loopg [23] n (fun g i wr => ∃ k : Nat, k ≤ n ∧ g = n - k ∧ i = .int .i64 k ∧ Dec w wr n (uptoI (fun _ => 1) k))
  case atStart => exact ⟨0, Nat.zero_le _, rfl, rfl, dec_start w n _⟩
  case round =>
    obtain ⟨k, hk, rfl, rfl, hD⟩ := hrel
    by_cases hlt : k < n
    · have c3 : wr.cell? ⟨w.heap.size + 1, k, none⟩ = some (.int .i64 0) := by rw [hD.row.cell hlt]; simp [uptoI]
      have c4 : wr.frozen? ⟨w.heap.size + 1, k, none⟩ = false := hD.row.frozen k
      go_wp2
      go_roundg (n - (k + 1))
      case measure => go_light; omega
      case rel => go_light; exact ⟨k + 1, by omega, rfl, by go_num, hD.step⟩
    · obtain rfl : n = k := by omega
      have hD' := hD.done
      obtain ⟨wo, rfl⟩ : ∃ wo : World, wo = wr := ⟨_, rfl⟩
      have hC' := hC.below hD'.below (Nat.le_refl _)
      have hacc := hC'.acc
      clear hC hD
      go_wp2
      go_loopg [8, 41] m (fun g t i wi => ∃ k : Nat, k ≤ m ∧ g = m - k ∧ i = .int .i64 k ∧ wo = wi ∧ t = .bool (accZ m (fun k => allTo (fun i => R k i == 1) n) k))
      case atStart => exact ⟨0, Nat.zero_le _, rfl, rfl, rfl, by rw [accZ_zero]⟩
      case round =>
        obtain ⟨k, hk, rfl, rfl, rfl, rfl⟩ := hrel
        by_cases hlt : k < m
        · obtain ⟨b1, o1, rfl, hbl1, hc1⟩ := hC'.tab.one (by omega)
          have e1 := hc1 k hlt
          have c30 := allComp30 (TA k) n (TC k) (R k) wo (by omega) (hC'.row k hlt)
          have HA : Hid (accZ m (fun k => allTo (fun i => R k i == 1) n) (k + 1) = (accZ m (fun k => allTo (fun i => R k i == 1) n) k || allTo (fun i => R k i == 1) n)) := accZ_succ m _ k
          clear hC' hc1 hacc
          generalize allTo (fun i => R k i == 1) n = ak at c30 HA
          cases haz : accZ m (fun k => allTo (fun i => R k i == 1) n) k
          · rw [haz] at HA
            clear haz
            go_wp2_with (go_at_call 30; refine c30.mono ?_; rintro e w' ⟨rfl, rfl⟩)
            go_roundg (m - (k + 1))
            case measure => go_light; omega
            case rel => go_light; exact ⟨k + 1, by omega, rfl, by go_num, rfl, by rw [HA.out, Bool.false_or]⟩
          · rw [haz] at HA
            clear haz c30
            go_wp2
            go_roundg (m - (k + 1))
            case measure => go_light; omega
            case rel => go_light; exact ⟨k + 1, by omega, rfl, by go_num, rfl, by rw [HA.out, Bool.true_or]⟩
        · obtain rfl : m = k := by omega
          clear hC' hacc
          have r0 : wo.cell? ⟨w.heap.size, 0, none⟩ = some (.slice none 0 0) := hD'.res.cell (by omega)
          have r1 : wo.cell? ⟨w.heap.size, 1, none⟩ = some (.bool false) := hD'.res.cell (by omega)
          have z0 : wo.frozen? ⟨w.heap.size, 0, none⟩ = false := hD'.res.frozen 0
          have z1 : wo.frozen? ⟨w.heap.size, 1, none⟩ = false := hD'.res.frozen 1
          go_wp2
          obtain ⟨q1, q2, q3, q4⟩ := hD'.store (.slice (some ⟨w.heap.size + 1, 0, none⟩) n n) (.bool (accZ m (fun k => allTo (fun i => R k i == 1) n) m))
          exact bodyPost_ret (v := .agg #[.slice (some ⟨w.heap.size + 1, 0, none⟩) n n, .bool (accZ m (fun k => allTo (fun i => R k i == 1) n) m)]) (by simp [results, Try.results23, go_sem, q3, q4]) rfl ⟨rfl, q1, q2⟩

end Go.Proofs.Qxb6612369a
