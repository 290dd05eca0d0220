/-
  No cell of these rows narrows 'for every input' (looked for: loops, veiled, ifaces, maps, wideKeys, modest, calm, conditions, laid).
  DERIVED. THE GIVEN ROWS OF THIS SEAT. 1 by the template 'for every input the law returns true; each argument reads behind the call as it read before'; 0 by the template 'total and deterministic' (their statements: Qxb6609202aTotals.lean).
  GIVEN WITH THE SEED: the statements are not yours to turn. If you find one false, say at which input.
  Laid BY PROGRAM, IN A SANDBOX (cutbox-rows.mjs): the forced cells as the released guide's own fill.sh prints them over the translation ad532e5d5be96a6f… (all of the seat's roots in one cut). By AI agents, Wed Nov 11 2026. No macro, syntax, notation, axiom, sorry.
-/
import Derived.Test.Qxb6609202aChecked
import GoSem.Claim
import GoSem.ClaimJoined
import GoSem.ClaimMapViews
import Derived.JoinedTies
import Derived.KernelRfl
namespace Go.Proofs.Qxb6609202a
/- THE CELL 'sum', in the pinned program and in every row, IS THE sha256 OF THE DUMP (.gsa) THAT Qxb6609202aProg.lean LOADS. Nothing in Lean hashes anything: it is a label: what it is worth is what the hold of that sum in a sandbox is worth. -/
noncomputable def Try.pinned : Pinned := { name := "qxb6609202a", sum := "ad532e5d5be96a6f2c9d7402cd0a4fe79c2173159a7a9ed71c68265b7bcc3ce0", checked := Try.checked }
namespace Rows
def none {H : Type} : Left H := { results := [], args := [] }

/-- 'zzlaws_pkg_sim_b1.FnPushLatestTailDoesNotHangOnSendsAlreadyThere': WHATEVER THE INPUT: true; the input reads as it did. -/
def fnPushLatestTailDoesNotHangOnSendsAlreadyThereSpec : ChangeSpec := { name := "fnPushLatestTailDoesNotHangOnSendsAlreadyThere", fn := fun _ => fun
  | [d1, d2, d3, d4, d5, d6, d7] => { results := [.lit (.bool true)], args := [d1, d2, d3, d4, d5, d6, d7] }
  | _ => none }
def fnPushLatestTailDoesNotHangOnSendsAlreadyThereRow : OpenClaim := { program := "qxb6609202a", sum := "ad532e5d5be96a6f2c9d7402cd0a4fe79c2173159a7a9ed71c68265b7bcc3ce0", func := "example.com/cyclecast/cyclecast/zzlaws_pkg_sim_b1.FnPushLatestTailDoesNotHangOnSendsAlreadyThere", spec := "fnPushLatestTailDoesNotHangOnSendsAlreadyThere", unfollowed := true, recurses := true, apart := false }
def FnPushLatestTailDoesNotHangOnSendsAlreadyThereSaid : Prop := fnPushLatestTailDoesNotHangOnSendsAlreadyThereRow.holds Try.pinned (OpenSpec.ofChange fnPushLatestTailDoesNotHangOnSendsAlreadyThereSpec)

/-- ITS FALSE NEIGHBOUR: 'it returns false'. Refute it at one input. -/
def fnPushLatestTailDoesNotHangOnSendsAlreadyThereWrong : ChangeSpec := { name := "fnPushLatestTailDoesNotHangOnSendsAlreadyThere", fn := fun _ => fun
  | [d1, d2, d3, d4, d5, d6, d7] => { results := [.lit (.bool false)], args := [d1, d2, d3, d4, d5, d6, d7] }
  | _ => none }
def FnPushLatestTailDoesNotHangOnSendsAlreadyThereWrongFalsely : Prop := fnPushLatestTailDoesNotHangOnSendsAlreadyThereRow.holds Try.pinned (OpenSpec.ofChange fnPushLatestTailDoesNotHangOnSendsAlreadyThereWrong)

end Rows
end Go.Proofs.Qxb6609202a
