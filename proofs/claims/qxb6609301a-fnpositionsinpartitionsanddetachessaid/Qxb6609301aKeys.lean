import Derived.Test.Qxb6609301aCmp
import Derived.Deep.RegionHeld
import Derived.BigRegion
namespace Go.Proofs.Qxb6609301a
open Go.RowKit

theorem at2 (w : World) (o1 o2 : Obj) (c : Array Value) (t : TypeId) (i : Nat) (v : Value) (h : c[i]? = some v) : (((w.alloc o1).alloc o2).alloc (.cells c t)).drew.cell? ⟨w.heap.size + 1 + 1, i, none⟩ = some v := by
  show (((w.alloc o1).alloc o2).alloc (.cells c t)).cell? ⟨w.heap.size + 1 + 1, i, none⟩ = some v
  have : w.heap.size + 1 + 1 = ((w.alloc o1).alloc o2).heap.size := by simp
  rw [this, World.cell?_alloc_new, h]

def ck (a b c d : ByteArray) : Int := orI (cmpS a c) (cmpS b d)

set_option maxRecDepth 100000 in
set_option maxHeartbeats 2000000 in
theorem compareKeys24 (a b c d : ByteArray) (w : World) : Calls Try.prog 24 #[.agg #[.string a, .string b], .agg #[.string c, .string d]] w fun e w' => e = .returned (.int .i64 (ck a b c d)) ∧ Below w.heap.size w w' := by
  unfold ck
  generalize hx : cmpS a c = x
  generalize hy : cmpS b d = y
  have c27 : ∀ w, Calls Try.prog 27 #[.string a, .string c] w fun e w' => e = .returned (.int .i64 x) ∧ w' = w := fun w => hx ▸ compare27 a c w
  have c28 : ∀ w, Calls Try.prog 28 #[.string b, .string d] w fun e w' => e = .returned (.int .i64 y) ∧ w' = w := fun w => hy ▸ compare28 b d w
  clear hx hy
  go_enter Try.func24, Try.ntmps24
  go_wp2
  go_region_held (fun w' => w'.cell? ⟨w.heap.size, 0, none⟩ = some (.string a) ∧ w'.cell? ⟨w.heap.size, 1, none⟩ = some (.string b) ∧ w'.cell? ⟨w.heap.size + 1, 0, none⟩ = some (.string c) ∧ w'.cell? ⟨w.heap.size + 1, 1, none⟩ = some (.string d)) (go_keep)
    (first | (go_at_call 27; refine (c27 _).mono ?_; rintro e w' ⟨rfl, rfl⟩) | (go_at_call 28; refine (c28 _).mono ?_; rintro e w' ⟨rfl, rfl⟩) | (go_at_call 26; refine (or26 _ x y _ (at2 _ _ _ _ _ _ _ rfl) (at2 _ _ _ _ _ _ _ rfl)).mono ?_; rintro e w' ⟨rfl, rfl⟩))
  all_goals go_wp2
  all_goals go_ret
  all_goals exact ⟨rfl, ((((Below.refl _ _).alloc (Nat.le_refl _) _).alloc (by simp) _).alloc (by simp; omega) _).drew⟩

end Go.Proofs.Qxb6609301a
