/-
  No cell of these rows narrows 'for every input' (looked for: loops, veiled, ifaces, maps, wideKeys, modest, calm, conditions, laid).
  DERIVED. THE GIVEN ROWS OF THIS SEAT. 3 by the template 'for every input the law returns true; each argument reads behind the call as it read before'; 0 by the template 'total and deterministic' (their statements: Qxb6609280aTotals.lean).
  GIVEN WITH THE SEED: the statements are not yours to turn. If you find one false, say at which input.
  Laid BY PROGRAM, IN A SANDBOX (cutbox-rows.mjs): the forced cells as the released guide's own fill.sh prints them over the translation a3df601e73e6895d… (all of the seat's roots in one cut). By AI agents, Wed Nov 11 2026. No macro, syntax, notation, axiom, sorry.
-/
import Derived.Test.Qxb6609280aChecked
import GoSem.Claim
import GoSem.ClaimJoined
import GoSem.ClaimMapViews
import Derived.JoinedTies
import Derived.KernelRfl
namespace Go.Proofs.Qxb6609280a
/- THE CELL 'sum', in the pinned program and in every row, IS THE sha256 OF THE DUMP (.gsa) THAT Qxb6609280aProg.lean LOADS. Nothing in Lean hashes anything: it is a label: what it is worth is what the hold of that sum in a sandbox is worth. -/
noncomputable def Try.pinned : Pinned := { name := "qxb6609280a", sum := "a3df601e73e6895dd30dc2a1a4d378865b8e1d71172886281310af18520fb275", checked := Try.checked }
namespace Rows
def none {H : Type} : Left H := { results := [], args := [] }

/-- 'zzlaws_internal_profile_b1.FnLocationTablesGrowOnlyAndIgnoreRepeats': WHATEVER THE INPUT: true; the input reads as it did. -/
def fnLocationTablesGrowOnlyAndIgnoreRepeatsSpec : ChangeSpec := { name := "fnLocationTablesGrowOnlyAndIgnoreRepeats", fn := fun _ => fun
  | [d1, d2] => { results := [.lit (.bool true)], args := [d1, d2] }
  | _ => none }
def fnLocationTablesGrowOnlyAndIgnoreRepeatsRow : OpenClaim := { program := "qxb6609280a", sum := "a3df601e73e6895dd30dc2a1a4d378865b8e1d71172886281310af18520fb275", func := "example.com/runq/runq/zzlaws_internal_profile_b1.FnLocationTablesGrowOnlyAndIgnoreRepeats", spec := "fnLocationTablesGrowOnlyAndIgnoreRepeats", plainKeys := false, apart := false }
def FnLocationTablesGrowOnlyAndIgnoreRepeatsSaid : Prop := fnLocationTablesGrowOnlyAndIgnoreRepeatsRow.holds Try.pinned (OpenSpec.ofChange fnLocationTablesGrowOnlyAndIgnoreRepeatsSpec)

/-- ITS FALSE NEIGHBOUR: 'it returns false'. Refute it at one input. -/
def fnLocationTablesGrowOnlyAndIgnoreRepeatsWrong : ChangeSpec := { name := "fnLocationTablesGrowOnlyAndIgnoreRepeats", fn := fun _ => fun
  | [d1, d2] => { results := [.lit (.bool false)], args := [d1, d2] }
  | _ => none }
def FnLocationTablesGrowOnlyAndIgnoreRepeatsWrongFalsely : Prop := fnLocationTablesGrowOnlyAndIgnoreRepeatsRow.holds Try.pinned (OpenSpec.ofChange fnLocationTablesGrowOnlyAndIgnoreRepeatsWrong)

/-- 'zzlaws_internal_profile_b1.FnAppendIntDecodesBack': WHATEVER THE INPUT: true; the input reads as it did. -/
def fnAppendIntDecodesBackSpec : ChangeSpec := { name := "fnAppendIntDecodesBack", fn := fun _ => fun
  | [d1, d2, d3] => { results := [.lit (.bool true)], args := [d1, d2, d3] }
  | _ => none }
def fnAppendIntDecodesBackRow : OpenClaim := { program := "qxb6609280a", sum := "a3df601e73e6895dd30dc2a1a4d378865b8e1d71172886281310af18520fb275", func := "example.com/runq/runq/zzlaws_internal_profile_b1.FnAppendIntDecodesBack", spec := "fnAppendIntDecodesBack", plainKeys := false, apart := false }
def FnAppendIntDecodesBackSaid : Prop := fnAppendIntDecodesBackRow.holds Try.pinned (OpenSpec.ofChange fnAppendIntDecodesBackSpec)

/-- ITS FALSE NEIGHBOUR: 'it returns false'. Refute it at one input. -/
def fnAppendIntDecodesBackWrong : ChangeSpec := { name := "fnAppendIntDecodesBack", fn := fun _ => fun
  | [d1, d2, d3] => { results := [.lit (.bool false)], args := [d1, d2, d3] }
  | _ => none }
def FnAppendIntDecodesBackWrongFalsely : Prop := fnAppendIntDecodesBackRow.holds Try.pinned (OpenSpec.ofChange fnAppendIntDecodesBackWrong)

/-- 'zzlaws_internal_profile_b1.FnAppendIntIsContextFreeAndSized': WHATEVER THE INPUT: true; the input reads as it did. -/
def fnAppendIntIsContextFreeAndSizedSpec : ChangeSpec := { name := "fnAppendIntIsContextFreeAndSized", fn := fun _ => fun
  | [d1, d2, d3] => { results := [.lit (.bool true)], args := [d1, d2, d3] }
  | _ => none }
def fnAppendIntIsContextFreeAndSizedRow : OpenClaim := { program := "qxb6609280a", sum := "a3df601e73e6895dd30dc2a1a4d378865b8e1d71172886281310af18520fb275", func := "example.com/runq/runq/zzlaws_internal_profile_b1.FnAppendIntIsContextFreeAndSized", spec := "fnAppendIntIsContextFreeAndSized", plainKeys := false, apart := false }
def FnAppendIntIsContextFreeAndSizedSaid : Prop := fnAppendIntIsContextFreeAndSizedRow.holds Try.pinned (OpenSpec.ofChange fnAppendIntIsContextFreeAndSizedSpec)

/-- ITS FALSE NEIGHBOUR: 'it returns false'. Refute it at one input. -/
def fnAppendIntIsContextFreeAndSizedWrong : ChangeSpec := { name := "fnAppendIntIsContextFreeAndSized", fn := fun _ => fun
  | [d1, d2, d3] => { results := [.lit (.bool false)], args := [d1, d2, d3] }
  | _ => none }
def FnAppendIntIsContextFreeAndSizedWrongFalsely : Prop := fnAppendIntIsContextFreeAndSizedRow.holds Try.pinned (OpenSpec.ofChange fnAppendIntIsContextFreeAndSizedWrong)

end Rows
end Go.Proofs.Qxb6609280a
