/-
  No cell of these rows narrows 'for every input' (looked for: loops, veiled, ifaces, maps, wideKeys, modest, calm, conditions, laid).
  DERIVED. THE GIVEN ROWS OF THIS SEAT. 2 by the template 'for every input the law returns true; each argument reads behind the call as it read before'; 0 by the template 'total and deterministic' (their statements: Qxb6609301aTotals.lean).
  GIVEN WITH THE SEED: the statements are not yours to turn. If you find one false, say at which input.
  Laid BY PROGRAM, IN A SANDBOX (cutbox-rows.mjs): the forced cells as the released guide's own fill.sh prints them over the translation 43e70e2e367f16e8… (all of the seat's roots in one cut). By AI agents, Wed Nov 11 2026. No macro, syntax, notation, axiom, sorry.
-/
import Derived.Test.Qxb6609301aChecked
import GoSem.Claim
import GoSem.ClaimJoined
import GoSem.ClaimMapViews
import Derived.JoinedTies
import Derived.KernelRfl
namespace Go.Proofs.Qxb6609301a
/- THE CELL 'sum', in the pinned program and in every row, IS THE sha256 OF THE DUMP (.gsa) THAT Qxb6609301aProg.lean LOADS. Nothing in Lean hashes anything: it is a label: what it is worth is what the hold of that sum in a sandbox is worth. -/
noncomputable def Try.pinned : Pinned := { name := "qxb6609301a", sum := "43e70e2e367f16e851b7a92b6fd7387f3118dd60368167c730bcd73083d53e05", checked := Try.checked }
namespace Rows
def none {H : Type} : Left H := { results := [], args := [] }

/-- 'zzlaws_root_b1.FnPositionsInIsTheSymbolsRun': WHATEVER THE INPUT: true; the input reads as it did. -/
def fnPositionsInIsTheSymbolsRunSpec : ChangeSpec := { name := "fnPositionsInIsTheSymbolsRun", fn := fun _ => fun
  | [d1, d2, d3] => { results := [.lit (.bool true)], args := [d1, d2, d3] }
  | _ => none }
def fnPositionsInIsTheSymbolsRunRow : OpenClaim := { program := "qxb6609301a", sum := "43e70e2e367f16e851b7a92b6fd7387f3118dd60368167c730bcd73083d53e05", func := "example.com/ballast/ballast/zzlaws_root_b1.FnPositionsInIsTheSymbolsRun", spec := "fnPositionsInIsTheSymbolsRun", unfollowed := true, recurses := true, apart := false }
def FnPositionsInIsTheSymbolsRunSaid : Prop := fnPositionsInIsTheSymbolsRunRow.holds Try.pinned (OpenSpec.ofChange fnPositionsInIsTheSymbolsRunSpec)

/-- ITS FALSE NEIGHBOUR: 'it returns false'. Refute it at one input. -/
def fnPositionsInIsTheSymbolsRunWrong : ChangeSpec := { name := "fnPositionsInIsTheSymbolsRun", fn := fun _ => fun
  | [d1, d2, d3] => { results := [.lit (.bool false)], args := [d1, d2, d3] }
  | _ => none }
def FnPositionsInIsTheSymbolsRunWrongFalsely : Prop := fnPositionsInIsTheSymbolsRunRow.holds Try.pinned (OpenSpec.ofChange fnPositionsInIsTheSymbolsRunWrong)

/-- 'zzlaws_root_b1.FnPositionsInPartitionsAndDetaches': WHATEVER THE INPUT: true; the input reads as it did. -/
def fnPositionsInPartitionsAndDetachesSpec : ChangeSpec := { name := "fnPositionsInPartitionsAndDetaches", fn := fun _ => fun
  | [d1, d2] => { results := [.lit (.bool true)], args := [d1, d2] }
  | _ => none }
def fnPositionsInPartitionsAndDetachesRow : OpenClaim := { program := "qxb6609301a", sum := "43e70e2e367f16e851b7a92b6fd7387f3118dd60368167c730bcd73083d53e05", func := "example.com/ballast/ballast/zzlaws_root_b1.FnPositionsInPartitionsAndDetaches", spec := "fnPositionsInPartitionsAndDetaches", unfollowed := true, recurses := true, apart := false }
def FnPositionsInPartitionsAndDetachesSaid : Prop := fnPositionsInPartitionsAndDetachesRow.holds Try.pinned (OpenSpec.ofChange fnPositionsInPartitionsAndDetachesSpec)

/-- ITS FALSE NEIGHBOUR: 'it returns false'. Refute it at one input. -/
def fnPositionsInPartitionsAndDetachesWrong : ChangeSpec := { name := "fnPositionsInPartitionsAndDetaches", fn := fun _ => fun
  | [d1, d2] => { results := [.lit (.bool false)], args := [d1, d2] }
  | _ => none }
def FnPositionsInPartitionsAndDetachesWrongFalsely : Prop := fnPositionsInPartitionsAndDetachesRow.holds Try.pinned (OpenSpec.ofChange fnPositionsInPartitionsAndDetachesWrong)

end Rows
end Go.Proofs.Qxb6609301a
