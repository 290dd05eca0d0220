import Derived.Test.Qxb6609301aPos
import Derived.Deep.LoopGhost
import Derived.Deep.Light
import Derived.Deep.QuietTactic
import Derived.BigQuiet
import Derived.WalkSmall
import Derived.WalkLawsBesides
namespace Go.Proofs.Qxb6609301a
open Go.RowKit

/-- The slice at 'a', of n elements of one cell each, reads 'f i' at index i. -/
def Rd (w : World) (a : Option Addr) (n : Nat) (f : Nat → Value) : Prop :=
  ∃ b o, (0 < n → a = some ⟨b, o, none⟩) ∧ ∀ i, i < n → w.cell? ⟨b, o + i, none⟩ = some (f i)

theorem Rd.below {w w' : World} {B : Nat} {a : Option Addr} {n : Nat} {f : Nat → Value} (h : Rd w a n f) (hb : Below B w w') (hB : w.heap.size ≤ B) : Rd w' a n f := by
  obtain ⟨b, o, h1, h2⟩ := h
  refine ⟨b, o, h1, fun i hi => ?_⟩
  have hlt : b < w.heap.size := World.block_lt_of_cell? _ _ (h2 i hi)
  rw [hb.cell (p := ⟨b, o + i, none⟩) (by show b < B; omega)]
  exact h2 i hi

theorem Rd.congr {w : World} {a : Option Addr} {n : Nat} {f g : Nat → Value} (h : Rd w a n f) (e : ∀ i, i < n → f i = g i) : Rd w a n g := by
  obtain ⟨b, o, h1, h2⟩ := h
  exact ⟨b, o, h1, fun i hi => by rw [h2 i hi, e i hi]⟩

theorem Rd.ofRow {w : World} {b : Nat} {t : TypeId} {n : Nat} {f : Nat → Value} (h : w.rowIs b t n f) : Rd w (some ⟨b, 0, none⟩) n f :=
  ⟨b, 0, fun _ => rfl, fun i hi => by rw [Nat.zero_add]; exact h.cell hi⟩

theorem Rd.one {w : World} {a : Option Addr} {n : Nat} {f : Nat → Value} (h : Rd w a n f) (hn : 0 < n) : ∃ b o, a = some ⟨b, o, none⟩ ∧ b < w.heap.size ∧ ∀ i, i < n → w.cell? ⟨b, o + i, none⟩ = some (f i) := by
  obtain ⟨b, o, h1, h2⟩ := h
  exact ⟨b, o, h1 hn, World.block_lt_of_cell? _ _ (h2 0 hn), h2⟩

/-- the account's positions, as its slice reads -/
structure Poss (w : World) (pa : Option Addr) (n : Nat) (P : Nat → Nat) (S G : Nat → ByteArray) : Prop where
  rd : Rd w pa n (fun i => .pointer (some ⟨P i, 0, none⟩))
  pos : ∀ i, i < n → PosAt w (P i) (S i) (G i)

theorem Poss.below {w w' : World} {B : Nat} {pa : Option Addr} {n : Nat} {P : Nat → Nat} {S G : Nat → ByteArray} (h : Poss w pa n P S G) (hb : Below B w w') (hB : w.heap.size ≤ B) : Poss w' pa n P S G :=
  ⟨h.rd.below hb hB, fun i hi => (h.pos i hi).below hb hB⟩

theorem start4 {w1 wr : World} {n0 pb o : Nat} {c d v : Value} (hn : n0 < w1.heap.size) (hpb : pb < w1.heap.size) (h0 : w1.cell? ⟨n0, 0, none⟩ = some c) (h1 : w1.cell? ⟨n0, 1, none⟩ = some d) (hv : w1.cell? ⟨pb, o, none⟩ = some v) (hb : Below w1.heap.size w1 wr) :
    wr.drew.cell? ⟨n0, 0, none⟩ = some c ∧ wr.drew.cell? ⟨n0, 1, none⟩ = some d ∧ wr.drew.cell? ⟨pb, o, none⟩ = some v ∧ Below w1.heap.size w1 wr.drew :=
  ⟨by show wr.cell? _ = _; rw [hb.cell (p := ⟨n0, 0, none⟩) hn]; exact h0, by show wr.cell? _ = _; rw [hb.cell (p := ⟨n0, 1, none⟩) hn]; exact h1, by show wr.cell? _ = _; rw [hb.cell (p := ⟨pb, o, none⟩) hpb]; exact hv, hb.drew⟩

theorem keep3 {w1 W W' : World} {n0 pb o : Nat} {c d v : Value} (hn : n0 < w1.heap.size) (hpb : pb < w1.heap.size) (h : W.cell? ⟨n0, 0, none⟩ = some c ∧ W.cell? ⟨n0, 1, none⟩ = some d ∧ W.cell? ⟨pb, o, none⟩ = some v ∧ Below w1.heap.size w1 W) (hb : Below W.heap.size W W') :
    W'.cell? ⟨n0, 0, none⟩ = some c ∧ W'.cell? ⟨n0, 1, none⟩ = some d ∧ W'.cell? ⟨pb, o, none⟩ = some v ∧ Below w1.heap.size w1 W' := by
  have hs := h.2.2.2.size
  exact ⟨by rw [hb.cell (p := ⟨n0, 0, none⟩) (by show n0 < _; omega)]; exact h.1, by rw [hb.cell (p := ⟨n0, 1, none⟩) (by show n0 < _; omega)]; exact h.2.1, by rw [hb.cell (p := ⟨pb, o, none⟩) (by show pb < _; omega)]; exact h.2.2.1, h.2.2.2.trans (hb.mono hs)⟩

theorem bel3 {w1 W : World} {p q r : Prop} (h : p ∧ q ∧ r ∧ Below w1.heap.size w1 W) : Below w1.heap.size w1 W := h.2.2.2

def RetIB (i : Nat) (e : Ending) : Prop := ∃ b, e = .returned (.tuple #[.int .i64 (i : Nat), .bool b])
theorem RetIB.mk (i : Nat) (b : Bool) : RetIB i (.returned (.tuple #[.int .i64 (i : Nat), .bool b])) := ⟨b, rfl⟩

theorem new2_0 (w : World) (x y : Value) (t : TypeId) : (w.alloc (.cells #[x, y] t)).cell? ⟨w.heap.size, 0, none⟩ = some x := by rw [World.cell?_alloc_new]; rfl
theorem new2_1 (w : World) (x y : Value) (t : TypeId) : (w.alloc (.cells #[x, y] t)).cell? ⟨w.heap.size, 1, none⟩ = some y := by rw [World.cell?_alloc_new]; rfl

set_option maxRecDepth 100000 in
set_option maxHeartbeats 1000000 in
theorem bin22 (pa : Option Addr) (n pc : Nat) (P : Nat → Nat) (S G : Nat → ByteArray) (c d : ByteArray) (w : World) (hn : n ≤ 65536) (hP : Poss w pa n P S G)
    (hmon : ∀ i j, i ≤ j → j < n → ck (S j) (G j) c d < 0 → ck (S i) (G i) c d < 0) :
    Calls Try.prog 22 #[.slice pa n pc, .agg #[.string c, .string d], .func (.func 23) #[] #[]] w fun e w' => ∃ i, RetIB i e ∧ i ≤ n ∧ (∀ j, j < i → ck (S j) (G j) c d < 0) ∧ (∀ j, i ≤ j → j < n → ¬ ck (S j) (G j) c d < 0) ∧ Below w.heap.size w w' := by
  go_enter Try.func22, Try.ntmps22
  go_wp2
  have hb0 : Below w.heap.size w (w.alloc (.cells #[.string c, .string d] 64)) := (Below.refl _ _).alloc (Nat.le_refl _) _
  have hz0 : (w.alloc (.cells #[.string c, .string d] 64)).heap.size = w.heap.size + 1 := by simp
  have hc0 : (w.alloc (.cells #[.string c, .string d] 64)).cell? ⟨w.heap.size, 0, none⟩ = some (.string c) := new2_0 _ _ _ _
  have hc1 : (w.alloc (.cells #[.string c, .string d] 64)).cell? ⟨w.heap.size, 1, none⟩ = some (.string d) := new2_1 _ _ _ _
  generalize w.alloc (.cells #[.string c, .string d] 64) = w1 at hb0 hz0 hc0 hc1 ⊢
  have hP1 := hP.below hb0 (Nat.le_refl _)
  clear hP
  go_loopg [9, 10] n (fun g vi vj wr => ∃ (lo hi : Nat), lo ≤ hi ∧ hi ≤ n ∧ g = hi - lo ∧ vi = .int .i64 lo ∧ vj = .int .i64 hi ∧ Below w1.heap.size w1 wr ∧ Hid ((∀ j, j < lo → ck (S j) (G j) c d < 0) ∧ (∀ j, hi ≤ j → j < n → ¬ ck (S j) (G j) c d < 0)))
  case atStart => exact ⟨0, n, Nat.zero_le _, Nat.le_refl _, rfl, rfl, rfl, Below.refl _ _, fun j hj => by omega, fun j h1 h2 => by omega⟩
  case round =>
    obtain ⟨lo, hi, hlh, hhn, rfl, rfl, rfl, hbr, hE⟩ := hrel
    by_cases hlt : lo < hi
    · obtain ⟨pb, po, rfl, hpb, hcell⟩ := hP1.rd.one (by omega)
      obtain ⟨m, hm1, hm2, em⟩ : ∃ m : Nat, lo ≤ m ∧ m < hi ∧ ((lo : Int) + hi) / 2 = (m : Int) := ⟨(lo + hi) / 2, by omega, by omega, by omega⟩
      have hmn : m < n := by omega
      have hst : wr.drew.cell? ⟨w.heap.size, 0, none⟩ = some (.string c) ∧ wr.drew.cell? ⟨w.heap.size, 1, none⟩ = some (.string d) ∧ wr.drew.cell? ⟨pb, po + m, none⟩ = some (.pointer (some ⟨P m, 0, none⟩)) ∧ Below w1.heap.size w1 wr.drew :=
        start4 (by omega) hpb hc0 hc1 (hcell m hmn) hbr
      have hpm : ∀ W, (W.cell? ⟨w.heap.size, 0, none⟩ = some (.string c) ∧ W.cell? ⟨w.heap.size, 1, none⟩ = some (.string d) ∧ W.cell? ⟨pb, po + m, none⟩ = some (.pointer (some ⟨P m, 0, none⟩)) ∧ Below w1.heap.size w1 W) → PosAt W (P m) (S m) (G m) := fun W h => (hP1.pos m hmn).below h.2.2.2 (Nat.le_refl _)
      have hlt0 : w.heap.size < w1.heap.size := by omega
      have hmon1 : Hid (ck (S m) (G m) c d < 0 → ∀ j, j < m + 1 → ck (S j) (G j) c d < 0) := fun h j hj => hmon j m (by omega) hmn h
      have hmon2 : Hid (¬ ck (S m) (G m) c d < 0 → ∀ j, m ≤ j → j < n → ¬ ck (S j) (G j) c d < 0) := fun h j h1 h2 h3 => h (hmon m j h1 h2 h3)
      have cl := fun W h => closure23 (P m) (S m) (G m) c d W (hpm W h)
      generalize ck (S m) (G m) c d = q at hmon1 hmon2 cl
      clear hcell hP1 hmon hpm
      have i1 : (0 : Int) ≤ m := by omega
      have i2 : (m : Int) < n := by omega
      by_cases hq : q < 0
      · go_wp2
        go_region_held (fun W => W.cell? ⟨w.heap.size, 0, none⟩ = some (.string c) ∧ W.cell? ⟨w.heap.size, 1, none⟩ = some (.string d) ∧ W.cell? ⟨pb, po + m, none⟩ = some (.pointer (some ⟨P m, 0, none⟩)) ∧ Below w1.heap.size w1 W)
          (first | exact hst | exact keep3 hlt0 hpb (by assumption) (by assumption))
          (first | (go_at_call 23; refine (cl _ (by assumption)).mono ?_; rintro e w' ⟨rfl, hbk⟩))
        all_goals go_wp2
        all_goals go_roundg (hi - (m + 1))
        case measure => go_light; omega
        case rel => go_light; exact ⟨m + 1, hi, by omega, hhn, rfl, by go_num, rfl, bel3 (by assumption), hmon1.out hq, hE.out.2⟩
      · go_wp2
        go_region_held (fun W => W.cell? ⟨w.heap.size, 0, none⟩ = some (.string c) ∧ W.cell? ⟨w.heap.size, 1, none⟩ = some (.string d) ∧ W.cell? ⟨pb, po + m, none⟩ = some (.pointer (some ⟨P m, 0, none⟩)) ∧ Below w1.heap.size w1 W)
          (first | exact hst | exact keep3 hlt0 hpb (by assumption) (by assumption))
          (first | (go_at_call 23; refine (cl _ (by assumption)).mono ?_; rintro e w' ⟨rfl, hbk⟩))
        all_goals go_wp2
        all_goals go_roundg (m - lo)
        case measure => go_light; omega
        case rel => go_light; exact ⟨lo, m, hm1, by omega, rfl, rfl, rfl, bel3 (by assumption), hE.out.1, hmon2.out hq⟩
    · obtain rfl : lo = hi := by omega
      have hke : ¬ ((lo : Int) < lo) := by omega
      by_cases hln : lo < n
      · have hd : decide ((lo : Int) < n) = true := by simp; omega
        obtain ⟨pb, po, rfl, hpb, hcell⟩ := hP1.rd.one (by omega)
        have hst : wr.drew.cell? ⟨w.heap.size, 0, none⟩ = some (.string c) ∧ wr.drew.cell? ⟨w.heap.size, 1, none⟩ = some (.string d) ∧ wr.drew.cell? ⟨pb, po + lo, none⟩ = some (.pointer (some ⟨P lo, 0, none⟩)) ∧ Below w1.heap.size w1 wr.drew :=
          start4 (by omega) hpb hc0 hc1 (hcell lo hln) hbr
        have hpm : ∀ W, (W.cell? ⟨w.heap.size, 0, none⟩ = some (.string c) ∧ W.cell? ⟨w.heap.size, 1, none⟩ = some (.string d) ∧ W.cell? ⟨pb, po + lo, none⟩ = some (.pointer (some ⟨P lo, 0, none⟩)) ∧ Below w1.heap.size w1 W) → PosAt W (P lo) (S lo) (G lo) := fun W h => (hP1.pos lo hln).below h.2.2.2 (Nat.le_refl _)
        have hlt0 : w.heap.size < w1.heap.size := by omega
        have cl := fun W h => closure23 (P lo) (S lo) (G lo) c d W (hpm W h)
        generalize ck (S lo) (G lo) c d = q at cl
        clear hcell hP1 hmon hpm
        have i1 : (0 : Int) ≤ lo := by omega
        have i2 : (lo : Int) < n := by omega
        go_wp2
        go_region_held (fun W => W.cell? ⟨w.heap.size, 0, none⟩ = some (.string c) ∧ W.cell? ⟨w.heap.size, 1, none⟩ = some (.string d) ∧ W.cell? ⟨pb, po + lo, none⟩ = some (.pointer (some ⟨P lo, 0, none⟩)) ∧ Below w1.heap.size w1 W)
          (first | exact hst | exact keep3 hlt0 hpb (by assumption) (by assumption))
          (first | (go_at_call 23; refine (cl _ (by assumption)).mono ?_; rintro e w' ⟨rfl, hbk⟩))
        all_goals go_wp2
        all_goals go_ret2
        all_goals exact ⟨lo, .mk lo _, hhn, hE.out.1, hE.out.2, hb0.trans ((bel3 (w1 := w1) (by assumption)).mono hb0.size)⟩
      · have hd : decide ((lo : Int) < n) = false := by simp; omega
        have hni : ¬ ((lo : Int) < n) := by omega
        clear hP1 hmon
        go_wp2
        go_quiet (fail)
        go_wp2
        go_ret2
        exact ⟨lo, .mk lo _, hhn, hE.out.1, hE.out.2, hb0.trans ((below_drewN hbr _).mono hb0.size)⟩

end Go.Proofs.Qxb6609301a
