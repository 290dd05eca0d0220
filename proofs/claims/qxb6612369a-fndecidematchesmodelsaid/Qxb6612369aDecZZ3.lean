import Derived.Test.Qxb6612369aDecZZ2
namespace Go.Proofs.Qxb6612369a
open Go.RowKit

set_option maxRecDepth 100000 in
set_option maxHeartbeats 2000000 in
theorem zzdec_nil (n : Nat) (C : Nat → Bool) (P : Nat → Int) (R : Nat → Nat → Int) (ha : Option Addr) (hcp : Nat) (pa : Option Addr) (pc : Nat) (w : World)
    (hn : n ≤ 131072) (hH : Rd w ha n (fun i => .bool (C i))) (hP : Rd w pa n (fun j => .int .i64 (P j))) :
    Calls Try.prog 15 #[.slice ha n hcp, .slice none 0 0, .slice pa n pc] w fun e w' => ∃ g,
      e = .returned (.tuple #[.slice (some ⟨g, 0, none⟩) n n, .bool (decAcc C P R n 0)]) ∧ w'.rowIs g 3 n (fun i => .int .i64 (decSt C P R n 0 i)) ∧ Below w.heap.size w w' := by
  have hmk43 := make43 n (by omega)
  go_enter Try.func15, Try.ntmps15
  go_wp2
  clear hmk43
  go_loopg [29] n (fun g i wr => ∃ (k : Nat) (Q : Nat → Option Addr), k ≤ n ∧ g = n - k ∧ i = .int .i64 k ∧ StepsTo w wr n C k Q)
  case atStart => exact ⟨0, _, Nat.zero_le _, rfl, rfl, stepsTo_start w n C⟩
  case round =>
    obtain ⟨k, Q, hk, rfl, rfl, hS⟩ := hrel
    by_cases hlt : k < n
    · obtain ⟨b1, o1, rfl, hbl1, hc1⟩ := (hH.below hS.below (Nat.le_refl _)).one (by omega)
      have e1 := hc1 k hlt
      have c1 : ∀ ob, (wr.alloc ob).cell? ⟨w.heap.size, k * 9 + 4, none⟩ = some (.pointer (Q k)) := fun ob => stepRow_cell (hS.row.alloc ob) hlt (show 4 < 9 by omega)
      have c2 : ∀ ob, (wr.alloc ob).frozen? ⟨w.heap.size, k * 9 + 4, none⟩ = false := fun ob => (hS.row.alloc ob).frozen _
      clear hH hP hc1
      cases hck : C k
      · rw [hck] at e1
        go_wp2
        go_roundg (n - (k + 1))
        case measure => go_light; omega
        case rel => go_light; exact ⟨k + 1, Q, by omega, rfl, by go_num, stepsTo_no hS hck⟩
      · rw [hck] at e1
        go_wp2
        go_roundg (n - (k + 1))
        case measure => go_light; omega
        case rel => go_light; exact ⟨k + 1, _, by omega, rfl, by go_num, stepsTo_yes hS hck _ _⟩
    · obtain rfl : n = k := by omega
      obtain ⟨wA, rfl⟩ : ∃ wA : World, wA = wr := ⟨_, rfl⟩
      have hSA := hS
      clear hS hH
      have hne := fun w => run_neq_slice_nil_any (P := Try.prog) w 27 28 none 0 0 0 0 Try.underlying27
      obtain ⟨wB, rfl⟩ : ∃ wB : World, wB = wA := ⟨_, rfl⟩
      have hSB : wB.rowIs w.heap.size 52 (n * 9) (stepRow Q) := hSA.row
      have hWB := hSA.below
      have hQ := hSA.done
      clear hSA
      have hmk56 := run_make_row' (P := Try.prog) 56 57 (.int .i64 0) 8 Try.underlying56 Try.info57 rfl .i64 .i64 n (by omega) (by omega)
      go_wp2
      clear hmk56
      go_loopg [81] n (fun g i wr => ∃ k : Nat, k ≤ n ∧ g = n - k ∧ i = .int .i64 k ∧ Below wB.heap.size wB wr ∧ wr.rowIs wB.heap.size 57 n (uptoI P k))
      case atStart => exact ⟨0, Nat.zero_le _, rfl, rfl, (Below.refl _ _).alloc (Nat.le_refl _) _, (World.rowIs_made wB _ n 57).congr (fun j _ => by simp [uptoI])⟩
      case round =>
        obtain ⟨k, hk, rfl, rfl, hbC, hrC⟩ := hrel
        by_cases hlt : k < n
        · obtain ⟨b2, o2, rfl, hbl2, hc2⟩ := ((hP.below hWB (Nat.le_refl _)).below hbC (Nat.le_refl _)).one (by omega)
          have e2 := hc2 k hlt
          have c3 : wr.cell? ⟨wB.heap.size, k, none⟩ = some (.int .i64 0) := by rw [hrC.cell hlt]; simp [uptoI]
          have c4 : wr.frozen? ⟨wB.heap.size, k, none⟩ = false := hrC.frozen k
          clear hc2 hP hSB
          go_wp2
          go_roundg (n - (k + 1))
          case measure => go_light; omega
          case rel => go_light; exact ⟨k + 1, by omega, rfl, by go_num, hbC.setCell (Nat.le_refl _) _, uptoI_step hrC⟩
        · obtain rfl : n = k := by omega
          obtain ⟨wC, rfl⟩ : ∃ wC : World, wC = wr := ⟨_, rfl⟩
          have hWC : Below w.heap.size w wC := hWB.trans (hbC.mono hWB.size)
          have hrP : wC.rowIs wB.heap.size 57 n (fun i => .int .i64 (P i)) := hrC.congr fun i hi => by simp [uptoI, hi]
          have hSC : wC.rowIs w.heap.size 52 (n * 9) (stepRow Q) := hSB.of_block (hbC.block _ hSB.lt)
          have hTC : Rd wC none 0 (fun _ => .slice none n 0) := ⟨0, 0, by omega, by omega⟩
          clear hSB hWB hbC hrC hP
          have hA1 : ∀ ob, Below wC.heap.size wC (wC.alloc ob) := fun ob => (Below.refl _ _).alloc (Nat.le_refl _) _
          have hComp : CompIs (wC.alloc (.cells #[.string ⟨#[]⟩, .slice (some ⟨w.heap.size, 0, none⟩) n n, .slice none 0 0, .slice none 0 0] 63)) wC.heap.size n 0 w.heap.size Q none 0 (fun _ => none) (fun _ => 0) R :=
            ⟨by rw [World.cell?_alloc_new]; rfl, by rw [World.cell?_alloc_new]; rfl, fun i hi r hr => stepRow_cell (hSC.alloc _) hi hr, hTC.below (hA1 _) (Nat.le_refl _), fun k hk => absurd hk (Nat.not_lt_zero _)⟩
          have c23 := decide23 _ hComp (some ⟨wB.heap.size, 0, none⟩) n P hn (by omega) ((Rd.ofRow hrP).below (hA1 _) (Nat.le_refl _))
          have hdec : decAcc (fun i => (Q i).isSome) P R n 0 = decAcc C P R n 0 ∧ ∀ i, i < n → decSt (fun i => (Q i).isSome) P R n 0 i = decSt C P R n 0 i := dec_congr hQ
          rw [hdec.1] at c23
          clear hComp hTC hSC hrP hA1
          go_wp2_with fail
          refine c23.mono ?_
          rintro e wD ⟨rfl, hrS, hbD⟩
          have hrS' : wD.rowIs ((wC.alloc (.cells #[.string ⟨#[]⟩, .slice (some ⟨w.heap.size, 0, none⟩) n n, .slice none 0 0, .slice none 0 0] 63)).heap.size + 1) 55 n (fun i => .int .i64 (decSt C P R n 0 i)) := hrS.congr fun i hi => by rw [hdec.2 i hi]
          have hWD : Below w.heap.size w wD := (hWC.alloc hWC.size _).trans (hbD.mono (by have := hWC.size; simp; omega))
          clear hrS hdec c23 hWC hbD
          generalize (wC.alloc (.cells #[.string ⟨#[]⟩, .slice (some ⟨w.heap.size, 0, none⟩) n n, .slice none 0 0, .slice none 0 0] 63)).heap.size + 1 = SB at hrS' ⊢
          have hneS := fun w => run_neq_slice_nil_any (P := Try.prog) w 54 55 (some ⟨SB, 0, none⟩) n n 0 0 Try.underlying54
          have hmk28 := run_make_row' (P := Try.prog) 28 3 (.int .i64 0) 8 Try.underlying28 Try.info3 rfl .i64 .i64 n (by omega) (by omega)
          go_wp2
          clear hneS hmk28
          go_loopg [107] n (fun g i wr => ∃ k : Nat, k ≤ n ∧ g = n - k ∧ i = .int .i64 k ∧ OutTo wD wr n (decAcc C P R n 0) (decSt C P R n 0) k)
          case atStart => exact ⟨0, Nat.zero_le _, rfl, rfl, outTo_start wD _ n _ _⟩
          case round =>
            obtain ⟨k, hk, rfl, rfl, hO⟩ := hrel
            by_cases hlt : k < n
            · have e1 : wr.cell? ⟨SB, k, none⟩ = some (.int .i64 (decSt C P R n 0 k)) := (hrS'.of_block (hO.below.block _ hrS'.lt)).cell hlt
              have c3 : wr.cell? ⟨wD.heap.size + 1, k, none⟩ = some (.int .i64 0) := by rw [hO.row.cell hlt]; simp [uptoI]
              have c4 : wr.frozen? ⟨wD.heap.size + 1, k, none⟩ = false := hO.row.frozen k
              clear hrS'
              go_wp2
              go_roundg (n - (k + 1))
              case measure => go_light; omega
              case rel => go_light; exact ⟨k + 1, by omega, rfl, by go_num, outTo_step hO⟩
            · obtain rfl : n = k := by omega
              have e1 := hO.acc
              clear hrS'
              go_wp2
              go_quiet (fail)
              go_wp2
              go_ret2
              exact ⟨_, rfl, (hO.row.congr fun i hi => by simp [uptoI, hi]), below_drewN (hWD.trans (hO.below.mono hWD.size)) _⟩

end Go.Proofs.Qxb6612369a
