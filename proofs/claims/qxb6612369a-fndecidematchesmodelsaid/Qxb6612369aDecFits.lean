import Derived.Test.Qxb6612369aDecLeaf
import Derived.Deep.RegionWith
import Derived.Deep.QuietTactic
import Derived.BigQuiet
namespace Go.Proofs.Qxb6612369a
open Go.RowKit

def stepC (q : Option Addr) : Nat → Value
  | 0 => .string ⟨#[]⟩
  | 1 => .slice none 0 0
  | 2 => .map none
  | 3 => .pointer none
  | 4 => .pointer q
  | 5 => .bool false
  | _ => .int .i64 0

structure CompIs (w : World) (cb n m sb : Nat) (Q : Nat → Option Addr) (ta : Option Addr) (tc : Nat) (TA : Nat → Option Addr) (TC : Nat → Nat) (R : Nat → Nat → Int) : Prop where
  steps : w.cell? ⟨cb, 1, none⟩ = some (.slice (some ⟨sb, 0, none⟩) n n)
  acc : w.cell? ⟨cb, 3, none⟩ = some (.slice ta m tc)
  cells : ∀ i, i < n → ∀ r, r < 9 → w.cell? ⟨sb, i * 9 + r, none⟩ = some (stepC (Q i) r)
  tab : Rd w ta m (fun k => .slice (TA k) n (TC k))
  row : ∀ k, k < m → Rd w (TA k) n (fun j => .int .i64 (R k j))

theorem CompIs.below {w w' : World} {B cb n m sb : Nat} {Q : Nat → Option Addr} {ta : Option Addr} {tc : Nat} {TA : Nat → Option Addr} {TC : Nat → Nat} {R : Nat → Nat → Int} (h : CompIs w cb n m sb Q ta tc TA TC R) (hb : Below B w w') (hB : w.heap.size ≤ B) : CompIs w' cb n m sb Q ta tc TA TC R := by
  have key : ∀ (p : Addr) v, w.cell? p = some v → w'.cell? p = some v := fun p v hv => by
    rw [hb.cell (p := p) (by have := World.block_lt_of_cell? _ _ hv; omega)]; exact hv
  exact ⟨key _ _ h.steps, key _ _ h.acc, fun i hi r hr => key _ _ (h.cells i hi r hr), h.tab.below hb hB, fun k hk => (h.row k hk).below hb hB⟩

set_option maxRecDepth 100000 in
set_option maxHeartbeats 1000000 in
theorem fits40 {cb n m sb : Nat} {Q : Nat → Option Addr} {ta : Option Addr} {tc : Nat} {TA : Nat → Option Addr} {TC : Nat → Nat} {R : Nat → Nat → Int} (w : World) (hC : CompIs w cb n m sb Q ta tc TA TC R)
    (ra : Option Addr) (rc : Nat) (pa : Option Addr) (pc : Nat) (X P : Nat → Int) (hn : n ≤ 131072) (hX : Rd w ra n (fun j => .int .i64 (X j))) (hP : Rd w pa n (fun j => .int .i64 (P j))) :
    Calls Try.prog 40 #[.pointer (some ⟨cb, 0, none⟩), .slice ra n rc, .slice pa n pc] w fun e w' => e = .returned (.bool (allTo (fun i => fs (Q i).isSome (P i) (X i)) n)) ∧ Below w.heap.size w w' := by
  go_enter Try.func40, Try.ntmps40
  go_wp2
  go_loopg [11] n (fun g i wr => ∃ k : Nat, k ≤ n ∧ g = n - k ∧ i = .int .i64 k ∧ Below w.heap.size w wr ∧ Hid (∀ j, j < k → fs (Q j).isSome (P j) (X j) = true))
  case atStart => exact ⟨0, Nat.zero_le _, rfl, rfl, Below.refl _ _, fun j hj => absurd hj (Nat.not_lt_zero _)⟩
  case round =>
    obtain ⟨k, hk, rfl, rfl, hb, hall⟩ := hrel
    by_cases hlt : k < n
    · have hC' := hC.below hb (Nat.le_refl _)
      obtain ⟨b1, o1, rfl, hbl1, hc1⟩ := (hX.below hb (Nat.le_refl _)).one (by omega)
      obtain ⟨b2, o2, rfl, hbl2, hc2⟩ := (hP.below hb (Nat.le_refl _)).one (by omega)
      have e1 := hc1 k hlt
      have e2 := hc2 k hlt
      have s1 := hC'.steps
      have f0 := hC'.cells k hlt 0 (by omega)
      have f1 := hC'.cells k hlt 1 (by omega)
      have f2 := hC'.cells k hlt 2 (by omega)
      have f3 := hC'.cells k hlt 3 (by omega)
      have f4 := hC'.cells k hlt 4 (by omega)
      have f5 := hC'.cells k hlt 5 (by omega)
      have f6 := hC'.cells k hlt 6 (by omega)
      have f7 := hC'.cells k hlt 7 (by omega)
      have f8 := hC'.cells k hlt 8 (by omega)
      simp only [stepC, Nat.add_zero] at f0 f1 f2 f3 f4 f5 f6 f7 f8
      clear hC hX hP hC' hc1 hc2
      have c43 := fitsStep43 (Q k) (P k) (X k) wr.drew
      unfold stepV at c43
      cases hfs : fs (Q k).isSome (P k) (X k)
      · rw [hfs] at c43
        have HF : Hid (fs (Q k).isSome (P k) (X k) = false) := hfs
        clear hfs
        go_wp2
        go_region_with (go_at_call 43; refine c43.mono ?_; rintro e w' ⟨rfl, hb'⟩)
        all_goals go_wp2
        all_goals
          (go_ret
           refine ⟨ret_bool ?_, hb.drew.trans (Below.mono (by assumption) hb.size)⟩
           cases hq : allTo (fun i => fs (Q i).isSome (P i) (X i)) n with
           | false => rfl
           | true => exact absurd ((allTo_iff _ n).1 hq k hlt) (by simp [HF.out]))
      · rw [hfs] at c43
        have HF : Hid (fs (Q k).isSome (P k) (X k) = true) := hfs
        clear hfs
        go_wp2
        go_region_with (go_at_call 43; refine c43.mono ?_; rintro e w' ⟨rfl, hb'⟩)
        all_goals go_wp2
        all_goals
          (go_roundg (n - (k + 1))
           case measure => go_light; omega
           case rel =>
             go_light
             exact ⟨k + 1, by omega, rfl, by go_num, hb.drew.trans (Below.mono (by assumption) hb.size), fun j hj => by
               by_cases e : j = k
               · subst e; exact HF.out
               · exact hall.out j (by omega)⟩)
    · obtain rfl : n = k := by omega
      clear hC hX hP
      go_wp2
      go_ret
      exact ⟨ret_bool ((allTo_iff _ n).2 hall.out).symm, hb⟩

end Go.Proofs.Qxb6612369a
