import Derived.Test.Qxb6609202aPush
import Derived.RegionTactic
import Derived.BigRegion
namespace Go.Proofs.Qxb6609202a
open Go.RowKit

theorem Try.info3 : (Try.prog.info? 3).map (fun i => (i.zero, i.size, i.bytes)) = some (some (.int .i64 0), 1, 8) := by kernel_rfl

def sendZ (n : Nat) : Array Value := madeCells #[.int .i64 0, .int .i64 0, .int .i64 0] (n * 3)

theorem make33 (n : Nat) (hn : n ≤ 1048576) (w : World) :
    (Instr.makeSlice 33 (.int .i64 (n : Int)) (.int .i64 (n : Int))).run Try.prog w = .ok (.slice (some ⟨w.heap.size, 0, none⟩) n n) (w.alloc (.cells (sendZ n) 35)) := by
  obtain ⟨i, hi, hz0, hz1, hz2⟩ := info_parts Try.info35
  have hr := run_make (P := Try.prog) w 33 35 i (.agg #[.int .i64 0, .int .i64 0, .int .i64 0]) Try.underlying33 hi hz0 .i64 .i64 n n (by omega) (Int.le_refl _) (by rw [hz2]; omega) (by omega)
  simp only [Int.toNat_natCast, hz1] at hr
  exact hr

/-- the three columns laid in one row -/
def trip (X Y Z : Nat → Int) (j : Nat) : Int := if j % 3 = 0 then X (j / 3) else if j % 3 = 1 then Y (j / 3) else Z (j / 3)
def tripTo (X Y Z : Nat → Int) (k j : Nat) : Value := if j < k * 3 then .int .i64 (trip X Y Z j) else .int .i64 0

theorem sendZ_start (w : World) (n : Nat) (X Y Z : Nat → Int) : (w.alloc (.cells (sendZ n) 35)).rowIs w.heap.size 35 (n * 3) (tripTo X Y Z 0) := by
  have h := World.rowIs_alloc w (sendZ n) 35 (tripTo X Y Z 0) (fun i hi => by
    have hs : (sendZ n).size = n * 3 := size_madeCells _ _
    rw [hs] at hi
    simp only [sendZ, madeCells, tripTo]
    rw [Array.getElem?_map, Array.getElem?_range, if_pos hi]
    simp only [Option.map_some, Nat.zero_mul, Nat.not_lt_zero, if_false, Option.some.injEq]
    have : i % 3 = 0 ∨ i % 3 = 1 ∨ i % 3 = 2 := by omega
    rcases this with e | e | e <;> simp [e])
  rw [show (sendZ n).size = n * 3 from size_madeCells _ _] at h
  exact h

theorem tripTo_step {w : World} {b n k : Nat} {X Y Z : Nat → Int} (h : w.rowIs b 35 (n * 3) (tripTo X Y Z k)) :
    (((w.setCell ⟨b, k * 3, none⟩ (.int .i64 (X k))).setCell ⟨b, k * 3 + 1, none⟩ (.int .i64 (Y k))).setCell ⟨b, k * 3 + 2, none⟩ (.int .i64 (Z k))).rowIs b 35 (n * 3) (tripTo X Y Z (k + 1)) :=
  (((h.set (k * 3) _).set (k * 3 + 1) _).set (k * 3 + 2) _).congr fun j _ => by
    unfold tripTo trip
    by_cases e2 : j = k * 3 + 2
    · subst e2
      rw [if_pos rfl, if_pos (by omega), if_neg (by omega), if_neg (by omega), show (k * 3 + 2) / 3 = k by omega]
    · rw [if_neg e2]
      by_cases e1 : j = k * 3 + 1
      · subst e1
        rw [if_pos rfl, if_pos (by omega), if_neg (by omega), if_pos (by omega), show (k * 3 + 1) / 3 = k by omega]
      · rw [if_neg e1]
        by_cases e0 : j = k * 3
        · subst e0
          rw [if_pos rfl, if_pos (by omega), if_pos (by omega), show (k * 3) / 3 = k by omega]
        · rw [if_neg e0]
          by_cases hlt : j < k * 3
          · rw [if_pos hlt, if_pos (c := j < (k + 1) * 3) (by omega)]
          · rw [if_neg hlt, if_neg (c := j < (k + 1) * 3) (by omega)]

/-- what the call owns, three cells an element, by the index -/
theorem ownsRow_rd3 {w : World} {base : Nat} {e : TypeId} {v : Value} {n : Nat} {xs : List Value} (h : w.ownsRow base e 3 v n xs) :
    ∃ a cap g, v = .slice a n cap ∧ (0 < n → a = some ⟨g, 0, none⟩ ∧ g < w.heap.size) ∧ ∀ j, j < n * 3 → w.cell? ⟨g, j, none⟩ = some (xs.getD j undef) := by
  obtain ⟨hl, h⟩ := h
  rcases h with ⟨rfl, rfl⟩ | ⟨g, cap, cur, rfl, hg, hb, hcap, _, hsz, hxs⟩
  · exact ⟨none, 0, 0, rfl, by omega, by omega⟩
  · refine ⟨_, cap, g, rfl, fun _ => ⟨rfl, ?_⟩, fun i hi => ?_⟩
    · obtain ⟨hlt, _⟩ := Array.getElem?_eq_some_iff.1 hb
      exact hlt
    · simp only [World.cell?, hb]
      subst hxs
      have hlt : i < cur.size := by omega
      simp [hlt, hi, List.getD_eq_getElem?_getD]

theorem ownsRow_of_row {w : World} {b n : Nat} {e : TypeId} {f : Nat → Value} (h : w.rowIs b e (n * 3) f) (hn : n ≤ 1048576) : w.ownsRow b e 3 (.slice (some ⟨b, 0, none⟩) n n) n ((List.range (n * 3)).map f) := by
  obtain ⟨c, hb, hs, hc⟩ := h
  refine ⟨by simp, .inr ⟨b, n, c, rfl, Nat.le_refl _, hb, Nat.le_refl _, by unfold maxLen; omega, hs, ?_⟩⟩
  apply List.ext_getElem?
  intro i
  by_cases hi : i < n * 3
  · rw [List.getElem?_take, if_pos hi, List.getElem?_map, List.getElem?_range hi]
    have := hc i hi
    simpa using this
  · rw [List.getElem?_eq_none (by simp; omega), List.getElem?_eq_none (by simp; omega)]

/-- the columns of what comes out: the sends that were there, then what was pushed -/
def colP (X : Nat → Int) (m : Nat) (ps : List (Nat × Int)) (i : Nat) : Int := if i < m then X i else ((ps.getD (i - m) (0, 0)).1 : Int)
def colC (Y : Nat → Int) (m : Nat) (ps : List (Nat × Int)) (i : Nat) : Int := if i < m then Y i else (ps.getD (i - m) (0, 0)).2
def colN (Z : Nat → Int) (m : Nat) (i : Nat) : Int := if i < m then Z i else -1

theorem sendCells_get (ps : List (Nat × Int)) (j : Nat) (hj : j < ps.length * 3) : (sendCells ps)[j]? = some (.int .i64 (if j % 3 = 0 then ((ps.getD (j / 3) (0, 0)).1 : Int) else if j % 3 = 1 then (ps.getD (j / 3) (0, 0)).2 else -1)) := by
  induction ps generalizing j with
  | nil => simp at hj
  | cons p ps ih =>
    simp only [sendCells, List.flatMap_cons]
    by_cases h3 : j < 3
    · have : j = 0 ∨ j = 1 ∨ j = 2 := by omega
      rcases this with rfl | rfl | rfl <;> simp
    · rw [List.getElem?_append_right (by simp; omega)]
      have := ih (j - 3) (by simp at hj; omega)
      simp only [sendCells] at this
      simp only [List.length_cons, List.length_nil]
      rw [this, show (j - 3) % 3 = j % 3 by omega, show j / 3 = (j - 3) / 3 + 1 by omega, List.getD_cons_succ]

theorem out_get (X Y Z : Nat → Int) (m : Nat) (ps : List (Nat × Int)) (j : Nat) (hj : j < (m + ps.length) * 3) :
    (((List.range (m * 3)).map fun j => Value.int .i64 (trip X Y Z j)) ++ sendCells ps).getD j undef = .int .i64 (trip (colP X m ps) (colC Y m ps) (colN Z m) j) := by
  rw [List.getD_eq_getElem?_getD]
  by_cases h : j < m * 3
  · rw [List.getElem?_append_left (by simpa using h), List.getElem?_map, List.getElem?_range h]
    have : j / 3 < m := by omega
    simp [trip, colP, colC, colN, this]
  · rw [List.getElem?_append_right (by simp; omega)]
    simp only [List.length_map, List.length_range]
    rw [sendCells_get ps _ (by omega)]
    have h2 : ¬ j / 3 < m := by omega
    have e1 : (j - m * 3) % 3 = j % 3 := by omega
    have e2 : (j - m * 3) / 3 = j / 3 - m := by omega
    simp only [Option.getD_some, trip, colP, colC, colN, if_neg h2, e1, e2]

/-- the first k hold f, the rest 0 -/
def uptoI (f : Nat → Int) (k j : Nat) : Value := if j < k then .int .i64 (f j) else .int .i64 0

theorem uptoI_step {w : World} {b n k : Nat} {t : TypeId} {f : Nat → Int} (h : w.rowIs b t n (uptoI f k)) : (w.setCell ⟨b, k, none⟩ (.int .i64 (f k))).rowIs b t n (uptoI f (k + 1)) :=
  (h.set k _).congr fun j _ => by
    unfold uptoI
    by_cases e : j = k
    · subst e; simp
    · rw [if_neg e]
      by_cases hlt : j < k
      · rw [if_pos hlt, if_pos (by omega)]
      · rw [if_neg hlt, if_neg (by omega)]

/-- the three columns being laid out -/
structure Cols (w wr : World) (T : Nat) (X Y Z : Nat → Int) (k : Nat) : Prop where
  below : Below w.heap.size w wr
  x : wr.rowIs w.heap.size 3 T (uptoI X k)
  y : wr.rowIs (w.heap.size + 1) 3 T (uptoI Y k)
  z : wr.rowIs (w.heap.size + 2) 3 T (uptoI Z k)

theorem cols_start (w : World) (T : Nat) (X Y Z : Nat → Int) : Cols w (((w.alloc (.cells (madeCells #[.int .i64 0] T) 3)).alloc (.cells (madeCells #[.int .i64 0] T) 3)).alloc (.cells (madeCells #[.int .i64 0] T) 3)) T X Y Z 0 := by
  refine ⟨(((Below.refl _ _).alloc (Nat.le_refl _) _).alloc (by simp) _).alloc (by simp; omega) _, ?_, ?_, ?_⟩
  · exact (((World.rowIs_made w (.int .i64 0) T 3).alloc _).alloc _).congr fun j _ => by simp [uptoI]
  · have := (World.rowIs_made (w.alloc (.cells (madeCells #[.int .i64 0] T) 3)) (.int .i64 0) T 3).alloc (.cells (madeCells #[.int .i64 0] T) 3)
    rw [World.size_alloc] at this
    exact this.congr fun j _ => by simp [uptoI]
  · have := World.rowIs_made ((w.alloc (.cells (madeCells #[.int .i64 0] T) 3)).alloc (.cells (madeCells #[.int .i64 0] T) 3)) (.int .i64 0) T 3
    rw [World.size_alloc, World.size_alloc] at this
    exact this.congr fun j _ => by simp [uptoI]

theorem cols_step {w wr : World} {T k : Nat} {X Y Z : Nat → Int} (h : Cols w wr T X Y Z k) :
    Cols w (((wr.setCell ⟨w.heap.size, k, none⟩ (.int .i64 (X k))).setCell ⟨w.heap.size + 1, k, none⟩ (.int .i64 (Y k))).setCell ⟨w.heap.size + 2, k, none⟩ (.int .i64 (Z k))) T X Y Z (k + 1) :=
  ⟨((h.below.setCell (Nat.le_refl _) _).setCell (by show w.heap.size ≤ w.heap.size + 1; omega) _).setCell (by show w.heap.size ≤ w.heap.size + 2; omega) _,
    ((uptoI_step h.x).setOther (by show w.heap.size ≠ w.heap.size + 1; omega) _).setOther (by show w.heap.size ≠ w.heap.size + 2; omega) _,
    (uptoI_step (h.y.setOther (by show w.heap.size + 1 ≠ w.heap.size; omega) _)).setOther (by show w.heap.size + 1 ≠ w.heap.size + 2; omega) _,
    uptoI_step ((h.z.setOther (by show w.heap.size + 2 ≠ w.heap.size; omega) _).setOther (by show w.heap.size + 2 ≠ w.heap.size + 1; omega) _)⟩

theorem row_free {w : World} {b n : Nat} {t : TypeId} {f : Nat → Value} (h : w.rowIs b t n f) (i : Nat) : w.frozen? ⟨b, i, none⟩ = false := by
  obtain ⟨c, hb, _⟩ := h
  simp [World.frozen?, hb]

theorem below_set3 {B : Nat} {w0 w : World} (hb : Below B w0 w) (b i j k : Nat) (x y z : Value) (h : B ≤ b) : Below B w0 (((w.setCell ⟨b, i, none⟩ x).setCell ⟨b, j, none⟩ y).setCell ⟨b, k, none⟩ z) :=
  ((hb.setCell h _).setCell h _).setCell h _

theorem cell_set3 (w : World) (b i j k : Nat) (x y z : Value) {p : Addr} (h : p.block ≠ b) : (((w.setCell ⟨b, i, none⟩ x).setCell ⟨b, j, none⟩ y).setCell ⟨b, k, none⟩ z).cell? p = w.cell? p := by
  have ne : ∀ o, (⟨b, o, none⟩ : Addr) ≠ p := fun o e => h (by rw [← e])
  rw [World.cell?_setCell_other _ _ _ _ (ne _), World.cell?_setCell_other _ _ _ _ (ne _), World.cell?_setCell_other _ _ _ _ (ne _)]

theorem out_read (X Y Z : Nat → Int) {w : World} {base m : Nat} {v : Value} {ps : List (Nat × Int)} (h : w.ownsRow base 35 3 v (m + ps.length) ((List.range (m * 3)).map (tripTo X Y Z m) ++ sendCells ps)) :
    ∃ a cap g, v = .slice a (m + ps.length) cap ∧ (0 < m + ps.length → a = some ⟨g, 0, none⟩ ∧ g < w.heap.size) ∧ ∀ j, j < (m + ps.length) * 3 → w.cell? ⟨g, j, none⟩ = some (.int .i64 (trip (colP X m ps) (colC Y m ps) (colN Z m) j)) := by
  rw [show (List.range (m * 3)).map (tripTo X Y Z m) = (List.range (m * 3)).map fun j => Value.int .i64 (trip X Y Z j) from List.map_congr_left fun j hj => by rw [tripTo, if_pos (List.mem_range.1 hj)]] at h
  obtain ⟨a, cap, g, h1, h2, h3⟩ := ownsRow_rd3 h
  exact ⟨a, cap, g, h1, h2, fun j hj => by rw [h3 j hj, out_get X Y Z m ps j hj]⟩

theorem pb_start (w : World) (m : Nat) (v0 v3 : Value) (X Y Z : Nat → Int) :
    Below w.heap.size w ((w.alloc (.cells #[v0, .int .i64 0, .slice none 0 0, v3, .slice none 0 0, .int .i64 0, .slice none 0 0] 32)).alloc (.cells (sendZ m) 35)) ∧
    ((w.alloc (.cells #[v0, .int .i64 0, .slice none 0 0, v3, .slice none 0 0, .int .i64 0, .slice none 0 0] 32)).alloc (.cells (sendZ m) 35)).rowIs (w.heap.size + 1) 35 (m * 3) (tripTo X Y Z 0) ∧
    ((w.alloc (.cells #[v0, .int .i64 0, .slice none 0 0, v3, .slice none 0 0, .int .i64 0, .slice none 0 0] 32)).alloc (.cells (sendZ m) 35)).cell? ⟨w.heap.size, 0, none⟩ = some v0 ∧
    ((w.alloc (.cells #[v0, .int .i64 0, .slice none 0 0, v3, .slice none 0 0, .int .i64 0, .slice none 0 0] 32)).alloc (.cells (sendZ m) 35)).cell? ⟨w.heap.size, 3, none⟩ = some v3 := by
  have hr := sendZ_start (w.alloc (.cells #[v0, .int .i64 0, .slice none 0 0, v3, .slice none 0 0, .int .i64 0, .slice none 0 0] 32)) m X Y Z
  rw [World.size_alloc] at hr
  refine ⟨((Below.refl _ _).alloc (Nat.le_refl _) _).alloc (by simp) _, hr, ?_, ?_⟩
  · have h1 : ∀ {W : World} (o : Obj) (p : Addr), p.block < W.heap.size → (W.alloc o).cell? p = W.cell? p := fun o p hp => (((Below.refl _ _).alloc (Nat.le_refl _) o).cell hp)
    rw [h1 _ _ (by simp), World.cell?_alloc_new]; rfl
  · have h1 : ∀ {W : World} (o : Obj) (p : Addr), p.block < W.heap.size → (W.alloc o).cell? p = W.cell? p := fun o p hp => (((Below.refl _ _).alloc (Nat.le_refl _) o).cell hp)
    rw [h1 _ _ (by simp), World.cell?_alloc_new]; rfl

set_option maxRecDepth 100000 in
set_option maxHeartbeats 4000000 in
theorem zzpush5 (rb b h l n : Nat) (la : Option Addr) (lc N : Nat) (La : Nat → Int) (D : Nat → Nat → Nat × Nat × Nat) (xa ya za : Option Addr) (m xc yc zc : Nat) (X Y Z : Nat → Int) (w : World) (hN : N = n + 1) (h1 : 1 ≤ n) (h2 : n ≤ 32768) (hm : m ≤ 32768) (hl : l < 18446744073709551616)
    (hD : ∀ h l, DrawIs n h l (D h l).1 (D h l).2.1 (D h l).2.2) (hr : RandAt w rb b) (hp : PcgAt w b h l)
    (hla : Rd w la N (fun i => .int .i64 (La i))) (hX : Rd w xa m (fun i => .int .i64 (X i))) (hY : Rd w ya m (fun i => .int .i64 (Y i))) (hZ : Rd w za m (fun i => .int .i64 (Z i))) :
    Calls Try.prog 5 #[.int .i64 N, .slice la N lc, .slice xa m xc, .slice ya m yc, .slice za m zc, .pointer (some ⟨rb, 0, none⟩)] w fun e w' => ∃ g T, T = m + (pushTo D La h l N).1.length ∧
      e = .returned (.tuple #[.slice (some ⟨g, 0, none⟩) T T, .slice (some ⟨g + 1, 0, none⟩) T T, .slice (some ⟨g + 2, 0, none⟩) T T]) ∧
      w'.rowIs g 3 T (fun i => .int .i64 (colP X m (pushTo D La h l N).1 i)) ∧ w'.rowIs (g + 1) 3 T (fun i => .int .i64 (colC Y m (pushTo D La h l N).1 i)) ∧ w'.rowIs (g + 2) 3 T (fun i => .int .i64 (colN Z m i)) ∧ KeptB b w.heap.size w w' := by
  have hN1 : N ≤ n + 1 := by omega
  have hN2 : n + 1 ≤ N := by omega
  have hNe : (N : Int) = (n : Int) + 1 := by omega
  have HN : Hid (N = n + 1 ∧ (N : Int) = (n : Int) + 1) := ⟨hN, hNe⟩
  clear hN hNe
  have hmk33 := make33 m (by omega)
  go_enter Try.func5, Try.ntmps5
  go_wp2
  clear hmk33
  have hst := pb_start w m (.int .i64 N) (.slice la N lc) X Y Z
  generalize (w.alloc (.cells #[.int .i64 N, .int .i64 0, .slice none 0 0, .slice la N lc, .slice none 0 0, .int .i64 0, .slice none 0 0] 32)).alloc (.cells (sendZ m) 35) = w0 at hst ⊢
  obtain ⟨hB0, hrow0, hP0, hP3⟩ := hst
  go_loopg [32] m (fun g i wr => ∃ k : Nat, k ≤ m ∧ g = m - k ∧ i = .int .i64 k ∧ Below w.heap.size w wr ∧ wr.rowIs (w.heap.size + 1) 35 (m * 3) (tripTo X Y Z k) ∧ wr.cell? ⟨w.heap.size, 0, none⟩ = some (.int .i64 N) ∧ wr.cell? ⟨w.heap.size, 3, none⟩ = some (.slice la N lc))
  case atStart => exact ⟨0, Nat.zero_le _, rfl, rfl, hB0, hrow0, hP0, hP3⟩
  case round =>
    obtain ⟨k, hk, rfl, rfl, hb1, hrow1, q0, q3⟩ := hrel
    by_cases hlt : k < m
    · obtain ⟨bx, ox, rfl, lx, fx⟩ := (hX.below hb1 (Nat.le_refl _)).one (by omega)
      obtain ⟨by', oy, rfl, ly, fy⟩ := (hY.below hb1 (Nat.le_refl _)).one (by omega)
      obtain ⟨bz, oz, rfl, lz, fz⟩ := (hZ.below hb1 (Nat.le_refl _)).one (by omega)
      have fx := fx k hlt
      have fy := fy k hlt
      have fz := fz k hlt
      have s0 : wr.cell? ⟨w.heap.size + 1, k * 3, none⟩ = some (.int .i64 0) := by rw [hrow1.cell (i := k * 3) (by omega), tripTo, if_neg (by omega)]
      have s1 : wr.cell? ⟨w.heap.size + 1, k * 3 + 1, none⟩ = some (.int .i64 0) := by rw [hrow1.cell (i := k * 3 + 1) (by omega), tripTo, if_neg (by omega)]
      have s2 : wr.cell? ⟨w.heap.size + 1, k * 3 + 2, none⟩ = some (.int .i64 0) := by rw [hrow1.cell (i := k * 3 + 2) (by omega), tripTo, if_neg (by omega)]
      have z0 := row_free hrow1 (k * 3)
      have z1 := row_free hrow1 (k * 3 + 1)
      have z2 := row_free hrow1 (k * 3 + 2)
      have hlt' : (k : Int) < m := by omega
      go_wp2
      go_big_region
      all_goals go_wp2
      go_roundg (m - (k + 1))
      case measure => go_light; omega
      case rel =>
        go_light
        have hn : w.heap.size + 1 ≠ w.heap.size := by omega
        refine ⟨k + 1, by omega, rfl, by go_num, ?_, tripTo_step hrow1, ?_, ?_⟩
        · exact (below_set3 hb1 (w.heap.size + 1) _ _ _ _ _ _ (Nat.le_succ _)).drew
        · refine Eq.trans ?_ q0
          exact cell_set3 wr (w.heap.size + 1) _ _ _ _ _ _ (Ne.symm hn)
        · refine Eq.trans ?_ q3
          exact cell_set3 wr (w.heap.size + 1) _ _ _ _ _ _ (Ne.symm hn)
    · obtain rfl : m = k := by omega
      have hkn : ¬ ((m : Int) < m) := by omega
      clear hX hY hZ hB0 hrow0 hP0 hP3
      have hsz1 : w.heap.size + 2 ≤ wr.heap.size := by
        obtain ⟨c, hc, _⟩ := hrow1
        obtain ⟨hl, _⟩ := Array.getElem?_eq_some_iff.1 hc
        omega
      rw [HN.out.2] at q0
      have nb : b < w.heap.size := by obtain ⟨c, hc, _⟩ := hp; obtain ⟨hl, _⟩ := Array.getElem?_eq_some_iff.1 hc; omega
      have nrb : rb < w.heap.size := World.block_lt_of_cell? _ _ hr
      have hr1 : RandAt wr rb b := by unfold RandAt; rw [hb1.cell (p := ⟨rb, 0, none⟩) nrb]; exact hr
      have hp1 : PcgAt wr b h l := hp.of_block (hb1.block b nb)
      have hla1 := hla.below hb1 (Nat.le_refl _)
      have hlab : ∀ x o s, la = some ⟨x, o, s⟩ → x < w.heap.size + 1 := fun x o s e => by
        obtain ⟨b2, o2, e2, hlt2, _⟩ := hla.one (by omega)
        rw [e] at e2
        simp only [Option.some.injEq, Addr.mk.injEq] at e2
        omega
      have hown := ownsRow_of_row hrow1 (by omega)
      have c7 := push7 w.heap.size rb b h l n (w.heap.size + 1) la lc N La D _ m _ wr HN.out.1 h1 h2 hm hl hD hr1 hp1 q0 q3 hla1 (by omega) (by omega) (by omega) (by omega) hlab hown
      have hpl := pushTo_length D La h l N
      have hmk := fun T (hT : T ≤ 131072) => run_make_row' (P := Try.prog) 22 3 (.int .i64 0) 8 Try.underlying22 Try.info3 rfl .i64 .i64 T (by omega) (by omega)
      clear hr1 hp1 hla1 hlab hown q0 q3
      go_wp2_with fail
      refine c7.mono ?_
      rintro e w1 ⟨v', rfl, hown2, hk2⟩
      have hk3 : KeptB b w.heap.size w w1 := (KeptB.ofBelow hb1).trans (hk2.mono (by omega))
      obtain ⟨a, cap, g, rfl, hga, hread⟩ := out_read X Y Z hown2
      clear hown2 c7 hrow1 hb1 hk2 hr hp hla hD
      generalize hPX : colP X m (pushTo D La h l N).1 = PX at hread
      generalize hPY : colC Y m (pushTo D La h l N).1 = PY at hread
      generalize hPZ : colN Z m = PZ at hread
      have HP : Hid (colP X m (pushTo D La h l N).1 = PX ∧ colC Y m (pushTo D La h l N).1 = PY ∧ colN Z m = PZ) := ⟨hPX, hPY, hPZ⟩
      clear hPX hPY hPZ
      obtain ⟨T, hT⟩ : ∃ T, T = m + (pushTo D La h l N).1.length := ⟨_, rfl⟩
      rw [← hT] at hread hga ⊢
      have HT : Hid (T = m + (pushTo D La h l N).1.length) := hT
      have hT2 : T ≤ 65537 := by omega
      clear hT hpl
      have hmkT := hmk T (by omega)
      clear hmk
      go_wp2
      clear hmkT
      have hcs := cols_start w1 T PX PY PZ
      generalize ((w1.alloc (.cells (madeCells #[.int .i64 0] T) 3)).alloc (.cells (madeCells #[.int .i64 0] T) 3)).alloc (.cells (madeCells #[.int .i64 0] T) 3) = w2 at hcs ⊢
      go_loopg [67] T (fun g i wr => ∃ k : Nat, k ≤ T ∧ g = T - k ∧ i = .int .i64 k ∧ Cols w1 wr T PX PY PZ k)
      case atStart => exact ⟨0, Nat.zero_le _, rfl, rfl, hcs⟩
      case round =>
        obtain ⟨k, hk, rfl, rfl, hc1⟩ := hrel
        by_cases hlt : k < T
        · obtain ⟨rfl, hg⟩ := hga (by omega)
          have r0 : wr.cell? ⟨g, k * 3, none⟩ = some (.int .i64 (PX k)) := by
            rw [hc1.below.cell (p := ⟨g, k * 3, none⟩) hg, hread _ (by omega), trip, if_pos (by omega), show k * 3 / 3 = k by omega]
          have r1 : wr.cell? ⟨g, k * 3 + 1, none⟩ = some (.int .i64 (PY k)) := by
            rw [hc1.below.cell (p := ⟨g, k * 3 + 1, none⟩) hg, hread _ (by omega), trip, if_neg (by omega), if_pos (by omega), show (k * 3 + 1) / 3 = k by omega]
          have r2 : wr.cell? ⟨g, k * 3 + 2, none⟩ = some (.int .i64 (PZ k)) := by
            rw [hc1.below.cell (p := ⟨g, k * 3 + 2, none⟩) hg, hread _ (by omega), trip, if_neg (by omega), if_neg (by omega), show (k * 3 + 2) / 3 = k by omega]
          have s0 := hc1.x.cell (i := k) hlt
          have s1 := hc1.y.cell (i := k) hlt
          have s2 := hc1.z.cell (i := k) hlt
          rw [uptoI, if_neg (by omega)] at s0 s1 s2
          have z0 := row_free hc1.x k
          have z1 := row_free hc1.y k
          have z2 := row_free hc1.z k
          have ng0 : g ≠ w1.heap.size := by omega
          have ng1 : g ≠ w1.heap.size + 1 := by omega
          have ng2 : g ≠ w1.heap.size + 2 := by omega
          have hlt' : (k : Int) < T := by omega
          go_wp2
          go_roundg (T - (k + 1))
          case measure => go_light; omega
          case rel => go_light; exact ⟨k + 1, by omega, rfl, by go_num, cols_step hc1⟩
        · obtain rfl : T = k := by omega
          have hkn : ¬ ((T : Int) < T) := by omega
          go_wp2
          go_ret3
          have eT := HT.out
          obtain ⟨eX, eY, eZ⟩ := HP.out
          rw [eX, eY, eZ, ← eT]
          refine ⟨w1.heap.size, rfl, hc1.x.congr fun j hj => ?_, hc1.y.congr fun j hj => ?_, hc1.z.congr fun j hj => ?_, hk3.trans ((KeptB.ofBelow hc1.below).mono hk3.size)⟩
          · rw [uptoI, if_pos hj]
          · rw [uptoI, if_pos hj]
          · rw [uptoI, if_pos hj]

end Go.Proofs.Qxb6609202a
