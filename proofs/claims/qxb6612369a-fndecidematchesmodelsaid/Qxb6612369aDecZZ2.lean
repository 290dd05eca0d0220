import Derived.Test.Qxb6612369aDecZZ
namespace Go.Proofs.Qxb6612369a
open Go.RowKit

/-- the steps so far: a compensation's pointer is there where it should be -/
structure StepsTo (w wr : World) (n : Nat) (C : Nat → Bool) (k : Nat) (Q : Nat → Option Addr) : Prop where
  below : Below w.heap.size w wr
  row : wr.rowIs w.heap.size 52 (n * 9) (stepRow Q)
  done : ∀ j, j < k → (Q j).isSome = C j
  rest : ∀ j, k ≤ j → Q j = none

theorem stepsTo_start (w : World) (n : Nat) (C : Nat → Bool) : StepsTo w (w.alloc (.cells (stepCells n) 52)) n C 0 (fun _ => none) :=
  ⟨(Below.refl _ _).alloc (Nat.le_refl _) _, stepRow_start w n, fun _ hj => absurd hj (Nat.not_lt_zero _), fun _ _ => rfl⟩

theorem stepsTo_no {w wr : World} {n : Nat} {C : Nat → Bool} {k : Nat} {Q : Nat → Option Addr} (h : StepsTo w wr n C k Q) (hk : C k = false) : StepsTo w wr n C (k + 1) Q :=
  ⟨h.below, h.row, fun j hj => by
    by_cases e : j = k
    · subst e; rw [h.rest j (Nat.le_refl _), hk]; rfl
    · exact h.done j (by omega), fun j hj => h.rest j (by omega)⟩

theorem stepsTo_yes {w wr : World} {n : Nat} {C : Nat → Bool} {k : Nat} {Q : Nat → Option Addr} (h : StepsTo w wr n C k Q) (hk : C k = true) (ob : Obj) (p : Addr) :
    StepsTo w ((wr.alloc ob).setCell ⟨w.heap.size, k * 9 + 4, none⟩ (.pointer (some p))) n C (k + 1) (fun i => if i = k then some p else Q i) :=
  ⟨(h.below.alloc h.below.size _).setCell (Nat.le_refl _) _, stepRow_set (h.row.alloc _) _, fun j hj => by
    by_cases e : j = k
    · subst e; simp [hk]
    · simp only [if_neg e]; exact h.done j (by omega), fun j hj => by
    have e : j ≠ k := by omega
    simp only [if_neg e]; exact h.rest j (by omega)⟩


def RowAt (w : World) (B : Nat) (a : Option Addr) (n : Nat) (f : Nat → Value) : Prop := (a = none ∧ n = 0) ∨ ∃ tb, a = some ⟨tb, 0, none⟩ ∧ B < tb ∧ w.rowIs tb 55 n f

theorem RowAt.rd {w : World} {B : Nat} {a : Option Addr} {n : Nat} {f : Nat → Value} (h : RowAt w B a n f) : Rd w a n f := by
  rcases h with ⟨rfl, rfl⟩ | ⟨tb, rfl, _, h⟩
  · exact ⟨0, 0, by omega, by omega⟩
  · exact Rd.ofRow h

theorem RowAt.below {w w' : World} {B B' : Nat} {a : Option Addr} {n : Nat} {f : Nat → Value} (h : RowAt w B a n f) (hb : Below B' w w') (hB : w.heap.size ≤ B') : RowAt w' B a n f := by
  rcases h with h | ⟨tb, rfl, h1, h⟩
  · exact .inl h
  · exact .inr ⟨tb, rfl, h1, h.of_block (hb.block _ (Nat.lt_of_lt_of_le h.lt hB))⟩

theorem RowAt.set {w : World} {B : Nat} {a : Option Addr} {n : Nat} {f : Nat → Value} (h : RowAt w B a n f) (k : Nat) (v : Value) : RowAt (w.setCell ⟨B, k, none⟩ v) B a n f := by
  rcases h with h | ⟨tb, rfl, h1, h⟩
  · exact .inl h
  · exact .inr ⟨tb, rfl, h1, h.setOther (by show tb ≠ B; omega) _⟩

def tabV (TA : Nat → Option Addr) (TC : Nat → Nat) (n k j : Nat) : Value := if j < k then .slice (TA j) n (TC j) else .slice none 0 0

structure TabTo (wA wr : World) (n m : Nat) (R : Nat → Nat → Int) (k : Nat) (TA : Nat → Option Addr) (TC : Nat → Nat) : Prop where
  below : Below wA.heap.size wA wr
  row : wr.rowIs wA.heap.size 54 m (tabV TA TC n k)
  done : ∀ j, j < k → RowAt wr wA.heap.size (TA j) n (fun i => .int .i64 (R j i))

theorem tabTo_start (wA : World) (n m : Nat) (R : Nat → Nat → Int) : TabTo wA (wA.alloc (.cells (madeCells #[.slice none 0 0] m) 54)) n m R 0 (fun _ => none) (fun _ => 0) :=
  ⟨(Below.refl _ _).alloc (Nat.le_refl _) _, (World.rowIs_made wA _ m 54).congr (fun j _ => by simp [tabV]), fun _ hj => absurd hj (Nat.not_lt_zero _)⟩

theorem tabTo_no {wA wr : World} {n m : Nat} {R : Nat → Nat → Int} {k : Nat} {TA : Nat → Option Addr} {TC : Nat → Nat} (h : TabTo wA wr n m R k TA TC) (hn : n = 0) : TabTo wA wr n m R (k + 1) (fun j => if j = k then none else TA j) (fun j => if j = k then 0 else TC j) := by
  subst hn
  refine ⟨h.below, h.row.congr fun j _ => ?_, fun j hj => ?_⟩
  · unfold tabV
    by_cases e : j = k
    · subst e; simp
    · simp only [if_neg e]
      by_cases hlt : j < k
      · rw [if_pos hlt, if_pos (by omega)]
      · rw [if_neg hlt, if_neg (by omega)]
  · by_cases e : j = k
    · simp only [if_pos e]; exact .inl ⟨rfl, rfl⟩
    · simp only [if_neg e]; exact h.done j (by omega)

theorem tabTo_yes {wA wr wi : World} {n m : Nat} {R : Nat → Nat → Int} {k : Nat} {TA : Nat → Option Addr} {TC : Nat → Nat} (h : TabTo wA wr n m R k TA TC) (hb : Below wr.heap.size wr wi) (hr : wi.rowIs wr.heap.size 55 n (fun i => .int .i64 (R k i))) :
    TabTo wA (wi.setCell ⟨wA.heap.size, k, none⟩ (.slice (some ⟨wr.heap.size, 0, none⟩) n n)) n m R (k + 1) (fun j => if j = k then some ⟨wr.heap.size, 0, none⟩ else TA j) (fun j => if j = k then n else TC j) := by
  have hlt := h.row.lt
  refine ⟨(h.below.trans (hb.mono h.below.size)).setCell (Nat.le_refl _) _, ((h.row.of_block (hb.block _ hlt)).set k _).congr fun j _ => ?_, fun j hj => ?_⟩
  · unfold tabV
    by_cases e : j = k
    · subst e; simp
    · simp only [if_neg e]
      by_cases hlt : j < k
      · rw [if_pos hlt, if_pos (by omega)]
      · rw [if_neg hlt, if_neg (by omega)]
  · by_cases e : j = k
    · subst e
      simp only [if_true]
      exact RowAt.set (.inr ⟨wr.heap.size, rfl, hlt, hr⟩) _ _
    · simp only [if_neg e]; exact ((h.done j (by omega)).below hb (Nat.le_refl _)).set _ _

/-- the last loop: the states laid out as ints -/
structure OutTo (wD wr : World) (n : Nat) (acc : Bool) (st : Nat → Int) (k : Nat) : Prop where
  below : Below wD.heap.size wD wr
  acc : wr.cell? ⟨wD.heap.size, 1, none⟩ = some (.bool acc)
  row : wr.rowIs (wD.heap.size + 1) 3 n (uptoI st k)

theorem outTo_start (wD : World) (v : Value) (n : Nat) (acc : Bool) (st : Nat → Int) : OutTo wD ((wD.alloc (.cells #[v, .bool acc] 59)).alloc (.cells (madeCells #[.int .i64 0] n) 3)) n acc st 0 := by
  refine ⟨((Below.refl _ _).alloc (Nat.le_refl _) _).alloc (by simp) _, ?_, ?_⟩
  · rw [World.cell?_alloc_old _ _ _ (by show wD.heap.size ≠ _; simp), World.cell?_alloc_new]; rfl
  · have := World.rowIs_made (wD.alloc (.cells #[v, .bool acc] 59)) (.int .i64 0) n 3
    rw [World.size_alloc] at this
    exact this.congr fun j _ => by simp [uptoI]

theorem outTo_step {wD wr : World} {n : Nat} {acc : Bool} {st : Nat → Int} {k : Nat} (h : OutTo wD wr n acc st k) : OutTo wD (wr.setCell ⟨wD.heap.size + 1, k, none⟩ (.int .i64 (st k))) n acc st (k + 1) :=
  ⟨h.below.setCell (by show wD.heap.size ≤ wD.heap.size + 1; omega) _, by
    rw [World.cell?_setCell_other _ _ _ _ (fun e => by have := congrArg Addr.block e; simp at this)]; exact h.acc, uptoI_step h.row⟩

theorem allTo_congr {q q' : Nat → Bool} {n : Nat} (h : ∀ i, i < n → q i = q' i) : allTo q n = allTo q' n := by
  induction n with
  | zero => rfl
  | succ n ih => simp only [allTo]; rw [ih fun i hi => h i (by omega), h n (by omega)]

theorem dec_congr {C C' : Nat → Bool} {P : Nat → Int} {R : Nat → Nat → Int} {n m : Nat} (h : ∀ i, i < n → C i = C' i) :
    decAcc C P R n m = decAcc C' P R n m ∧ ∀ i, i < n → decSt C P R n m i = decSt C' P R n m i := by
  have hp : decPk C P R n m = decPk C' P R n m := by
    unfold decPk
    rw [show (fun k => allTo (fun i => fs (C i) (P i) (R k i)) n) = fun k => allTo (fun i => fs (C' i) (P i) (R k i)) n from funext fun k => allTo_congr fun i hi => by rw [h i hi]]
  refine ⟨by unfold decAcc; rw [hp], fun i hi => ?_⟩
  unfold decSt
  rw [hp, h i hi]

set_option maxRecDepth 100000 in
set_option maxHeartbeats 2000000 in
theorem zzdec_some (n m : Nat) (C : Nat → Bool) (P : Nat → Int) (R : Nat → Nat → Int) (ha : Option Addr) (hcp : Nat) (ga : Addr) (gc : Nat) (A : Nat → Option Addr) (Cp : Nat → Nat) (pa : Option Addr) (pc : Nat) (w : World)
    (hn : n ≤ 131072) (hm : m ≤ 65536) (hH : Rd w ha n (fun i => .bool (C i))) (hG : Rd w (some ga) m (fun k => .slice (A k) n (Cp k))) (hnil : ∀ k, k < m → A k = none → Cp k = 0) (hR : ∀ k, k < m → Rd w (A k) n (fun j => .int .i64 (R k j))) (hP : Rd w pa n (fun j => .int .i64 (P j))) :
    Calls Try.prog 15 #[.slice ha n hcp, .slice (some ga) m gc, .slice pa n pc] w fun e w' => ∃ g,
      e = .returned (.tuple #[.slice (some ⟨g, 0, none⟩) n n, .bool (decAcc C P R n m)]) ∧ w'.rowIs g 3 n (fun i => .int .i64 (decSt C P R n m i)) ∧ Below w.heap.size w w' := by
  have hmk43 := make43 n (by omega)
  go_enter Try.func15, Try.ntmps15
  go_wp2
  clear hmk43
  go_loopg [29] n (fun g i wr => ∃ (k : Nat) (Q : Nat → Option Addr), k ≤ n ∧ g = n - k ∧ i = .int .i64 k ∧ StepsTo w wr n C k Q)
  case atStart => exact ⟨0, _, Nat.zero_le _, rfl, rfl, stepsTo_start w n C⟩
  case round =>
    obtain ⟨k, Q, hk, rfl, rfl, hS⟩ := hrel
    by_cases hlt : k < n
    · obtain ⟨b1, o1, rfl, hbl1, hc1⟩ := (hH.below hS.below (Nat.le_refl _)).one (by omega)
      have e1 := hc1 k hlt
      have c1 : ∀ ob, (wr.alloc ob).cell? ⟨w.heap.size, k * 9 + 4, none⟩ = some (.pointer (Q k)) := fun ob => stepRow_cell (hS.row.alloc ob) hlt (show 4 < 9 by omega)
      have c2 : ∀ ob, (wr.alloc ob).frozen? ⟨w.heap.size, k * 9 + 4, none⟩ = false := fun ob => (hS.row.alloc ob).frozen _
      clear hH hG hP hR hc1
      cases hck : C k
      · rw [hck] at e1
        go_wp2
        go_roundg (n - (k + 1))
        case measure => go_light; omega
        case rel => go_light; exact ⟨k + 1, Q, by omega, rfl, by go_num, stepsTo_no hS hck⟩
      · rw [hck] at e1
        go_wp2
        go_roundg (n - (k + 1))
        case measure => go_light; omega
        case rel => go_light; exact ⟨k + 1, _, by omega, rfl, by go_num, stepsTo_yes hS hck _ _⟩
    · obtain rfl : n = k := by omega
      obtain ⟨wA, rfl⟩ : ∃ wA : World, wA = wr := ⟨_, rfl⟩
      have hSA := hS
      clear hS hH
      have hmk53 := run_make_row' (P := Try.prog) 53 54 (.slice none 0 0) 24 Try.underlying53 Try.info54 rfl .i64 .i64 m (by omega) (by omega)
      have hne := fun w => run_neq_slice_nil_any (P := Try.prog) w 27 28 (some ga) m gc 0 0 Try.underlying27
      go_wp2
      clear hmk53 hne
      go_loopg [49] m (fun g i wr => ∃ (k : Nat) (TA : Nat → Option Addr) (TC : Nat → Nat), k ≤ m ∧ g = m - k ∧ i = .int .i64 k ∧ TabTo wA wr n m R k TA TC)
      case atStart => exact ⟨0, _, _, Nat.zero_le _, rfl, rfl, tabTo_start wA n m R⟩
      case round =>
        obtain ⟨k, TA, TC, hk, rfl, rfl, hT⟩ := hrel
        have hWr : Below w.heap.size w wr := hSA.below.trans (hT.below.mono hSA.below.size)
        by_cases hlt : k < m
        · obtain ⟨b1, o1, hga, hbl1, hc1⟩ := (hG.below hWr (Nat.le_refl _)).one (by omega)
          obtain rfl : ga = ⟨b1, o1, none⟩ := by simpa using hga
          have e1 := hc1 k hlt
          have hRk := (hR k hlt).below hWr (Nat.le_refl _)
          have hnk := hnil k hlt
          clear hG hR hc1 hnil hga hP
          cases hAk : A k with
          | none =>
            have hn0 : n = 0 := by
              rcases Nat.eq_zero_or_pos n with h | h
              · exact h
              · obtain ⟨_, _, h1, _⟩ := hRk.one h
                rw [hAk] at h1; simp at h1
            rw [hAk, hnk hAk] at e1
            have hne2 := fun w => run_neq_slice_nil_any (P := Try.prog) w 28 3 none n 0 0 0 Try.underlying28
            have HN : Hid (n = 0) := hn0
            clear hn0 hRk hAk hnk
            go_wp2
            go_roundg (m - (k + 1))
            case measure => go_light; omega
            case rel => go_light; exact ⟨k + 1, _, _, by omega, rfl, by go_num, tabTo_no hT HN.out⟩
          | some ra =>
            rw [hAk] at e1 hRk
            obtain ⟨wo, rfl⟩ : ∃ wo : World, wo = wr := ⟨_, rfl⟩
            have hne2 := fun w => run_neq_slice_nil_any (P := Try.prog) w 28 3 (some ra) n (Cp k) 0 0 Try.underlying28
            have hmk54 := run_make_row' (P := Try.prog) 54 55 (.int .i64 0) 8 Try.underlying54 Try.info55 rfl .i64 .i64 n (by omega) (by omega)
            go_wp2
            clear hne2 hmk54 hnk hAk
            go_loopg [61] n (fun g i wi => ∃ j : Nat, j ≤ n ∧ g = n - j ∧ i = .int .i64 j ∧ Below wo.heap.size wo wi ∧ wi.rowIs wo.heap.size 55 n (uptoI (R k) j))
            case atStart => exact ⟨0, Nat.zero_le _, rfl, rfl, (Below.refl _ _).alloc (Nat.le_refl _) _, (World.rowIs_made wo _ n 55).congr (fun j _ => by simp [uptoI])⟩
            case round =>
              obtain ⟨j, hj, rfl, rfl, hbi, hri⟩ := hrel
              by_cases hjl : j < n
              · obtain ⟨b3, o3, hra, hbl3, hc3⟩ := (hRk.below hbi (Nat.le_refl _)).one (by omega)
                obtain rfl : ra = ⟨b3, o3, none⟩ := by simpa using hra
                have e3 := hc3 j hjl
                have c3 : wr.cell? ⟨wo.heap.size, j, none⟩ = some (.int .i64 0) := by rw [hri.cell hjl]; simp [uptoI]
                have c4 : wr.frozen? ⟨wo.heap.size, j, none⟩ = false := hri.frozen j
                clear hc3 hra hRk e1
                go_wp2
                go_roundg (n - (j + 1))
                case measure => go_light; omega
                case rel => go_light; exact ⟨j + 1, by omega, rfl, by go_num, hbi.setCell (Nat.le_refl _) _, uptoI_step hri⟩
              · obtain rfl : n = j := by omega
                have hri' : wr.rowIs wo.heap.size 55 n (fun i => .int .i64 (R k i)) := hri.congr fun i hi => by simp [uptoI, hi]
                have hTw : wr.rowIs wA.heap.size 54 m (tabV TA TC n k) := hT.row.of_block (hbi.block _ hT.row.lt)
                have c3 : wr.cell? ⟨wA.heap.size, k, none⟩ = some (.slice none 0 0) := by rw [hTw.cell hlt]; simp [tabV]
                have c4 : wr.frozen? ⟨wA.heap.size, k, none⟩ = false := hTw.frozen k
                clear hTw hri hRk e1
                go_wp2
                go_roundg (m - (k + 1))
                case measure => go_light; omega
                case rel => go_light; exact ⟨k + 1, _, _, by omega, rfl, by go_num, tabTo_yes hT hbi hri'⟩
        · obtain rfl : m = k := by omega
          obtain ⟨wB, rfl⟩ : ∃ wB : World, wB = wr := ⟨_, rfl⟩
          have hTB : Rd wB (some ⟨wA.heap.size, 0, none⟩) m (fun k => .slice (TA k) n (TC k)) ∧ ∀ k, k < m → Rd wB (TA k) n (fun i => .int .i64 (R k i)) :=
            ⟨(Rd.ofRow hT.row).congr fun i hi => by simp [tabV, hi], fun k hk => (hT.done k hk).rd⟩
          have hSB : wB.rowIs w.heap.size 52 (n * 9) (stepRow Q) := hSA.row.of_block (hT.below.block _ hSA.row.lt)
          have hWB := hWr
          have hQ := hSA.done
          clear hT hWr hSA hG hR hnil
          have hmk56 := run_make_row' (P := Try.prog) 56 57 (.int .i64 0) 8 Try.underlying56 Try.info57 rfl .i64 .i64 n (by omega) (by omega)
          go_wp2
          clear hmk56
          go_loopg [81] n (fun g i wr => ∃ k : Nat, k ≤ n ∧ g = n - k ∧ i = .int .i64 k ∧ Below wB.heap.size wB wr ∧ wr.rowIs wB.heap.size 57 n (uptoI P k))
          case atStart => exact ⟨0, Nat.zero_le _, rfl, rfl, (Below.refl _ _).alloc (Nat.le_refl _) _, (World.rowIs_made wB _ n 57).congr (fun j _ => by simp [uptoI])⟩
          case round =>
            obtain ⟨k, hk, rfl, rfl, hbC, hrC⟩ := hrel
            by_cases hlt : k < n
            · obtain ⟨b2, o2, rfl, hbl2, hc2⟩ := ((hP.below hWB (Nat.le_refl _)).below hbC (Nat.le_refl _)).one (by omega)
              have e2 := hc2 k hlt
              have c3 : wr.cell? ⟨wB.heap.size, k, none⟩ = some (.int .i64 0) := by rw [hrC.cell hlt]; simp [uptoI]
              have c4 : wr.frozen? ⟨wB.heap.size, k, none⟩ = false := hrC.frozen k
              clear hc2 hP hTB hSB
              go_wp2
              go_roundg (n - (k + 1))
              case measure => go_light; omega
              case rel => go_light; exact ⟨k + 1, by omega, rfl, by go_num, hbC.setCell (Nat.le_refl _) _, uptoI_step hrC⟩
            · obtain rfl : n = k := by omega
              obtain ⟨wC, rfl⟩ : ∃ wC : World, wC = wr := ⟨_, rfl⟩
              have hWC : Below w.heap.size w wC := hWB.trans (hbC.mono hWB.size)
              have hrP : wC.rowIs wB.heap.size 57 n (fun i => .int .i64 (P i)) := hrC.congr fun i hi => by simp [uptoI, hi]
              have hSC : wC.rowIs w.heap.size 52 (n * 9) (stepRow Q) := hSB.of_block (hbC.block _ hSB.lt)
              have hTC : Rd wC (some ⟨wA.heap.size, 0, none⟩) m (fun k => .slice (TA k) n (TC k)) := hTB.1.below hbC (Nat.le_refl _)
              have hTR : ∀ k, k < m → Rd wC (TA k) n (fun i => .int .i64 (R k i)) := fun k hk => (hTB.2 k hk).below hbC (Nat.le_refl _)
              clear hTB hSB hWB hbC hrC hP
              have hA1 : ∀ ob, Below wC.heap.size wC (wC.alloc ob) := fun ob => (Below.refl _ _).alloc (Nat.le_refl _) _
              have hComp : CompIs (wC.alloc (.cells #[.string ⟨#[]⟩, .slice (some ⟨w.heap.size, 0, none⟩) n n, .slice none 0 0, .slice (some ⟨wA.heap.size, 0, none⟩) m m] 63)) wC.heap.size n m w.heap.size Q (some ⟨wA.heap.size, 0, none⟩) m TA TC R :=
                ⟨by rw [World.cell?_alloc_new]; rfl, by rw [World.cell?_alloc_new]; rfl, fun i hi r hr => stepRow_cell (hSC.alloc _) hi hr, hTC.below (hA1 _) (Nat.le_refl _), fun k hk => (hTR k hk).below (hA1 _) (Nat.le_refl _)⟩
              have c23 := decide23 _ hComp (some ⟨wB.heap.size, 0, none⟩) n P hn hm ((Rd.ofRow hrP).below (hA1 _) (Nat.le_refl _))
              have hdec : decAcc (fun i => (Q i).isSome) P R n m = decAcc C P R n m ∧ ∀ i, i < n → decSt (fun i => (Q i).isSome) P R n m i = decSt C P R n m i := dec_congr hQ
              rw [hdec.1] at c23
              clear hComp hTC hTR hSC hrP hA1
              go_wp2_with fail
              refine c23.mono ?_
              rintro e wD ⟨rfl, hrS, hbD⟩
              have hrS' : wD.rowIs ((wC.alloc (.cells #[.string ⟨#[]⟩, .slice (some ⟨w.heap.size, 0, none⟩) n n, .slice none 0 0, .slice (some ⟨wA.heap.size, 0, none⟩) m m] 63)).heap.size + 1) 55 n (fun i => .int .i64 (decSt C P R n m i)) := hrS.congr fun i hi => by rw [hdec.2 i hi]
              have hWD : Below w.heap.size w wD := (hWC.alloc hWC.size _).trans (hbD.mono (by have := hWC.size; simp; omega))
              clear hrS hdec c23 hWC hbD
              generalize (wC.alloc (.cells #[.string ⟨#[]⟩, .slice (some ⟨w.heap.size, 0, none⟩) n n, .slice none 0 0, .slice (some ⟨wA.heap.size, 0, none⟩) m m] 63)).heap.size + 1 = SB at hrS' ⊢
              have hneS := fun w => run_neq_slice_nil_any (P := Try.prog) w 54 55 (some ⟨SB, 0, none⟩) n n 0 0 Try.underlying54
              have hmk28 := run_make_row' (P := Try.prog) 28 3 (.int .i64 0) 8 Try.underlying28 Try.info3 rfl .i64 .i64 n (by omega) (by omega)
              go_wp2
              clear hneS hmk28
              go_loopg [107] n (fun g i wr => ∃ k : Nat, k ≤ n ∧ g = n - k ∧ i = .int .i64 k ∧ OutTo wD wr n (decAcc C P R n m) (decSt C P R n m) k)
              case atStart => exact ⟨0, Nat.zero_le _, rfl, rfl, outTo_start wD _ n _ _⟩
              case round =>
                obtain ⟨k, hk, rfl, rfl, hO⟩ := hrel
                by_cases hlt : k < n
                · have e1 : wr.cell? ⟨SB, k, none⟩ = some (.int .i64 (decSt C P R n m k)) := (hrS'.of_block (hO.below.block _ hrS'.lt)).cell hlt
                  have c3 : wr.cell? ⟨wD.heap.size + 1, k, none⟩ = some (.int .i64 0) := by rw [hO.row.cell hlt]; simp [uptoI]
                  have c4 : wr.frozen? ⟨wD.heap.size + 1, k, none⟩ = false := hO.row.frozen k
                  clear hrS'
                  go_wp2
                  go_roundg (n - (k + 1))
                  case measure => go_light; omega
                  case rel => go_light; exact ⟨k + 1, by omega, rfl, by go_num, outTo_step hO⟩
                · obtain rfl : n = k := by omega
                  have e1 := hO.acc
                  clear hrS'
                  go_wp2
                  go_quiet (fail)
                  go_wp2
                  go_ret2
                  exact ⟨_, rfl, (hO.row.congr fun i hi => by simp [uptoI, hi]), below_drewN (hWD.trans (hO.below.mono hWD.size)) _⟩

end Go.Proofs.Qxb6612369a
