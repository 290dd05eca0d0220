import Derived.Test.Qxb6609202aRows
import Derived.Test.Qxb6609202aShelf
import Derived.Test.Qxb6609202aPcgPlain
import Derived.WalkKit
import Derived.ProofKit
import Derived.Deep.LoopGhost
import Derived.Deep.OwnRows
import Derived.Deep.Light
import Derived.Deep.QuietTactic
import Derived.BigQuiet
import Derived.WalkLawsBesides
import Derived.WalkSpells
namespace Go.Proofs.Qxb6609202a
open Go.RowKit

theorem add64 (x y c : Int) (hx : 0 ≤ x) (hy : 0 ≤ y) (hc0 : 0 ≤ c) (hc : c ≤ 1) (w : World) :
    (callFunc 37 #[.int .u64 x, .int .u64 y, .int .u64 c]).run Try.prog w =
      .ok (.value (.tuple #[.int .u64 ((x + y + c) % 18446744073709551616), .int .u64 ((x + y + c) / 18446744073709551616)])) w := by
  rw [run_callFunc_extern Try.func37 (by kernel_rfl) (by kernel_rfl) (by kernel_rfl) (e := add64Entry) (by kernel_rfl), run_add64 x y c hx hy hc0 hc]
  rfl

theorem add64_0 (x y : Int) (hx : 0 ≤ x) (hy : 0 ≤ y) (w : World) :
    (callFunc 37 #[.int .u64 x, .int .u64 y, .int .u64 0]).run Try.prog w =
      .ok (.value (.tuple #[.int .u64 ((x + y) % 18446744073709551616), .int .u64 ((x + y) / 18446744073709551616)])) w := by
  simpa using add64 x y 0 hx hy (Int.le_refl 0) (by decide) w

set_option maxRecDepth 100000 in
set_option maxHeartbeats 1000000 in
theorem next36 (b h l : Nat) (w : World) (hl : l < 18446744073709551616) (c0 : w.cell? ⟨b, 0, none⟩ = some (.int .u64 h)) (c1 : w.cell? ⟨b, 1, none⟩ = some (.int .u64 l))
    (f0 : w.frozen? ⟨b, 0, none⟩ = false) (f1 : w.frozen? ⟨b, 1, none⟩ = false) :
    Calls Try.prog 36 #[.pointer (some ⟨b, 0, none⟩)] w fun e w' => e = .returned (.tuple #[.int .u64 (nxh h l : Nat), .int .u64 (nxl l : Nat)]) ∧ ∃ q, w' = ((w.setCell ⟨b, 1, none⟩ (.int .u64 (nxl l : Nat))).setCell ⟨b, 0, none⟩ (.int .u64 (nxh h l : Nat))).drewN q := by
  have c15 := Try.bits_Mul64 l 4865540595714422341 hl (by decide) w
  obtain ⟨p, hp⟩ : ∃ p, p = l * 4865540595714422341 / 18446744073709551616 := ⟨_, rfl⟩
  obtain ⟨r, hr⟩ : ∃ r, r = l * 4865540595714422341 % 18446744073709551616 := ⟨_, rfl⟩
  rw [← hp, ← hr] at c15
  have HP : Hid (p = l * 4865540595714422341 / 18446744073709551616 ∧ r = l * 4865540595714422341 % 18446744073709551616) := ⟨hp, hr⟩
  have hrb : r < 18446744073709551616 := by rw [hr]; exact Nat.mod_lt _ (by decide)
  have HX : Hid (nxh h l = ((p + (h * 4865540595714422341 + l * 2549297995355413924)) % 18446744073709551616 + 6364136223846793005 + (r + 1442695040888963407) / 18446744073709551616) % 18446744073709551616 ∧ nxl l = (r + 1442695040888963407) % 18446744073709551616) := by
    rw [hp, hr]; exact ⟨rfl, rfl⟩
  generalize nxh h l = H at HX ⊢
  generalize nxl l = L at HX ⊢
  clear hp hr
  go_enter Try.func36, Try.ntmps36
  go_wp2_with fail
  refine c15.mono ?_
  rintro e w' ⟨rfl, rfl⟩
  clear c15
  go_wp2
  go_quiet (fail)
  obtain ⟨q2, hq2, hq3⟩ : ∃ q2 : Nat, IntKind.u64.wrap ((p : Int) + IntKind.u64.wrap (IntKind.u64.wrap ((h : Int) * 4865540595714422341) + IntKind.u64.wrap ((l : Int) * 2549297995355413924))) = (q2 : Int) ∧ q2 = (p + (h * 4865540595714422341 + l * 2549297995355413924)) % 18446744073709551616 :=
    ⟨_, by simp only [IntKind.wrap_u64]; omega, rfl⟩
  rw [hq2]
  have HQ : Hid (q2 = (p + (h * 4865540595714422341 + l * 2549297995355413924)) % 18446744073709551616) := hq3
  have hqb : q2 < 18446744073709551616 := by rw [hq3]; exact Nat.mod_lt _ (by decide)
  clear hq2 hq3
  have a1 := fun w => add64_0 (r : Int) 1442695040888963407 (by omega) (by decide) w
  obtain ⟨s, hs, hs2⟩ : ∃ s : Nat, ((r : Int) + 1442695040888963407) % 18446744073709551616 = (s : Int) ∧ s = (r + 1442695040888963407) % 18446744073709551616 := ⟨_, by omega, rfl⟩
  obtain ⟨cy, hcy, hcy2⟩ : ∃ cy : Nat, ((r : Int) + 1442695040888963407) / 18446744073709551616 = (cy : Int) ∧ cy = (r + 1442695040888963407) / 18446744073709551616 := ⟨_, by omega, rfl⟩
  rw [hs, hcy] at a1
  have hcb : cy ≤ 1 := by omega
  have a2 := fun w => add64 (q2 : Int) 6364136223846793005 (cy : Int) (by omega) (by decide) (by omega) (by omega) w
  obtain ⟨u, hu, hu2⟩ : ∃ u : Nat, ((q2 : Int) + 6364136223846793005 + (cy : Int)) % 18446744073709551616 = (u : Int) ∧ u = (q2 + 6364136223846793005 + cy) % 18446744073709551616 := ⟨_, by omega, rfl⟩
  rw [hu] at a2
  have HU : Hid (u = H ∧ s = L) := by
    obtain ⟨x1, x2⟩ := HX.out
    refine ⟨?_, by rw [hs2, x2]⟩
    rw [hu2, x1, HQ.out, hcy2]
  clear hs hs2 hcy hcy2 hu hu2 HX HP HQ hrb
  go_wp2
  go_ret2
  obtain ⟨x1, x2⟩ := HU.out
  subst x1 x2
  exact ⟨rfl, _, rfl⟩

end Go.Proofs.Qxb6609202a
