import Derived.Test.Qxb6612369aBase
namespace Go.Proofs.Qxb6612369a
open Go.RowKit

set_option maxHeartbeats 400000 in
theorem errNew (s : ByteArray) (w : World) :
    Calls Try.prog 21 #[.string s] w fun e w' => e = .returned (.iface 69 (.pointer (some ⟨w.heap.size, 0, none⟩))) ∧ w' = w.alloc (.cells #[.string s] 71) := by
  go_enter Try.func21, Try.ntmps21
  go_wp2
  go_ret
  exact ⟨rfl, rfl⟩

set_option maxHeartbeats 400000 in
theorem errError (b : Nat) (s : ByteArray) (w : World) (h : w.cell? ⟨b, 0, none⟩ = some (.string s)) :
    Calls Try.prog 66 #[.pointer (some ⟨b, 0, none⟩)] w fun e w' => e = .returned (.string s) ∧ w' = w := by
  go_enter Try.func66, Try.ntmps66
  go_wp2
  go_ret
  exact ⟨rfl, rfl⟩

end Go.Proofs.Qxb6612369a
