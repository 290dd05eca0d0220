/-
  No cell of these rows narrows 'for every input' (looked for: loops, veiled, ifaces, maps, wideKeys, modest, calm, conditions, laid).
  DERIVED. THE GIVEN ROWS OF THIS SEAT. 6 by the template 'for every input the law returns true; each argument reads behind the call as it read before'; 0 by the template 'total and deterministic' (their statements: Qxb6612369aTotals.lean).
  GIVEN WITH THE SEED: the statements are not yours to turn. If you find one false, say at which input.
  Laid BY PROGRAM, IN A SANDBOX (cutbox-rows.mjs): the forced cells as the released guide's own fill.sh prints them over the translation 029a137e59fd988f… (all of the seat's roots in one cut). By AI agents, Wed Nov 11 2026. No macro, syntax, notation, axiom, sorry.
-/
import Derived.Test.Qxb6612369aChecked
import GoSem.Claim
import GoSem.ClaimJoined
import GoSem.ClaimMapViews
import Derived.JoinedTies
import Derived.KernelRfl
namespace Go.Proofs.Qxb6612369a
/- THE CELL 'sum', in the pinned program and in every row, IS THE sha256 OF THE DUMP (.gsa) THAT Qxb6612369aProg.lean LOADS. Nothing in Lean hashes anything: it is a label: what it is worth is what the hold of that sum in a sandbox is worth. -/
noncomputable def Try.pinned : Pinned := { name := "qxb6612369a", sum := "029a137e59fd988f588f5150a0a8cfd4aebe7c3be85f31fd3bb83df85569f142", checked := Try.checked }
namespace Rows
def none {H : Type} : Left H := { results := [], args := [] }

/-- 'zzlaws_internal_coordinator_b1.FnTableFaultsErrorLayout': WHATEVER THE INPUT: true; the input reads as it did. -/
def fnTableFaultsErrorLayoutSpec : ChangeSpec := { name := "fnTableFaultsErrorLayout", fn := fun _ => fun
  | [d] => { results := [.lit (.bool true)], args := [d] }
  | _ => none }
def fnTableFaultsErrorLayoutRow : OpenClaim := { program := "qxb6612369a", sum := "029a137e59fd988f588f5150a0a8cfd4aebe7c3be85f31fd3bb83df85569f142", func := "example.com/amends/amends/zzlaws_internal_coordinator_b1.FnTableFaultsErrorLayout", spec := "fnTableFaultsErrorLayout", inPlace := ["internal/abi.NoEscape", "internal/bytealg.MakeNoZero"], unfollowed := true, recurses := true, apart := false }
def FnTableFaultsErrorLayoutSaid : Prop := fnTableFaultsErrorLayoutRow.holds Try.pinned (OpenSpec.ofChange fnTableFaultsErrorLayoutSpec)

/-- ITS FALSE NEIGHBOUR: 'it returns false'. Refute it at one input. -/
def fnTableFaultsErrorLayoutWrong : ChangeSpec := { name := "fnTableFaultsErrorLayout", fn := fun _ => fun
  | [d] => { results := [.lit (.bool false)], args := [d] }
  | _ => none }
def FnTableFaultsErrorLayoutWrongFalsely : Prop := fnTableFaultsErrorLayoutRow.holds Try.pinned (OpenSpec.ofChange fnTableFaultsErrorLayoutWrong)

/-- 'zzlaws_internal_coordinator_b1.FnTableFaultsErrorSplitsBack': WHATEVER THE INPUT: true; the input reads as it did. -/
def fnTableFaultsErrorSplitsBackSpec : ChangeSpec := { name := "fnTableFaultsErrorSplitsBack", fn := fun _ => fun
  | [d] => { results := [.lit (.bool true)], args := [d] }
  | _ => none }
def fnTableFaultsErrorSplitsBackRow : OpenClaim := { program := "qxb6612369a", sum := "029a137e59fd988f588f5150a0a8cfd4aebe7c3be85f31fd3bb83df85569f142", func := "example.com/amends/amends/zzlaws_internal_coordinator_b1.FnTableFaultsErrorSplitsBack", spec := "fnTableFaultsErrorSplitsBack", inPlace := ["internal/abi.NoEscape", "internal/bytealg.MakeNoZero"], unfollowed := true, recurses := true, apart := false }
def FnTableFaultsErrorSplitsBackSaid : Prop := fnTableFaultsErrorSplitsBackRow.holds Try.pinned (OpenSpec.ofChange fnTableFaultsErrorSplitsBackSpec)

/-- ITS FALSE NEIGHBOUR: 'it returns false'. Refute it at one input. -/
def fnTableFaultsErrorSplitsBackWrong : ChangeSpec := { name := "fnTableFaultsErrorSplitsBack", fn := fun _ => fun
  | [d] => { results := [.lit (.bool false)], args := [d] }
  | _ => none }
def FnTableFaultsErrorSplitsBackWrongFalsely : Prop := fnTableFaultsErrorSplitsBackRow.holds Try.pinned (OpenSpec.ofChange fnTableFaultsErrorSplitsBackWrong)

/-- 'zzlaws_internal_coordinator_b1.FnDecideMatchesModel': WHATEVER THE INPUT: true; the input reads as it did. -/
def fnDecideMatchesModelSpec : ChangeSpec := { name := "fnDecideMatchesModel", fn := fun _ => fun
  | [d1, d2, d3] => { results := [.lit (.bool true)], args := [d1, d2, d3] }
  | _ => none }
def fnDecideMatchesModelRow : OpenClaim := { program := "qxb6612369a", sum := "029a137e59fd988f588f5150a0a8cfd4aebe7c3be85f31fd3bb83df85569f142", func := "example.com/amends/amends/zzlaws_internal_coordinator_b1.FnDecideMatchesModel", spec := "fnDecideMatchesModel", apart := false }
def FnDecideMatchesModelSaid : Prop := fnDecideMatchesModelRow.holds Try.pinned (OpenSpec.ofChange fnDecideMatchesModelSpec)

/-- ITS FALSE NEIGHBOUR: 'it returns false'. Refute it at one input. -/
def fnDecideMatchesModelWrong : ChangeSpec := { name := "fnDecideMatchesModel", fn := fun _ => fun
  | [d1, d2, d3] => { results := [.lit (.bool false)], args := [d1, d2, d3] }
  | _ => none }
def FnDecideMatchesModelWrongFalsely : Prop := fnDecideMatchesModelRow.holds Try.pinned (OpenSpec.ofChange fnDecideMatchesModelWrong)

/-- 'zzlaws_internal_coordinator_b1.FnDecideAcceptsExactlyTableRows': WHATEVER THE INPUT: true; the input reads as it did. -/
def fnDecideAcceptsExactlyTableRowsSpec : ChangeSpec := { name := "fnDecideAcceptsExactlyTableRows", fn := fun _ => fun
  | [d1, d2, d3] => { results := [.lit (.bool true)], args := [d1, d2, d3] }
  | _ => none }
def fnDecideAcceptsExactlyTableRowsRow : OpenClaim := { program := "qxb6612369a", sum := "029a137e59fd988f588f5150a0a8cfd4aebe7c3be85f31fd3bb83df85569f142", func := "example.com/amends/amends/zzlaws_internal_coordinator_b1.FnDecideAcceptsExactlyTableRows", spec := "fnDecideAcceptsExactlyTableRows", apart := false }
def FnDecideAcceptsExactlyTableRowsSaid : Prop := fnDecideAcceptsExactlyTableRowsRow.holds Try.pinned (OpenSpec.ofChange fnDecideAcceptsExactlyTableRowsSpec)

/-- ITS FALSE NEIGHBOUR: 'it returns false'. Refute it at one input. -/
def fnDecideAcceptsExactlyTableRowsWrong : ChangeSpec := { name := "fnDecideAcceptsExactlyTableRows", fn := fun _ => fun
  | [d1, d2, d3] => { results := [.lit (.bool false)], args := [d1, d2, d3] }
  | _ => none }
def FnDecideAcceptsExactlyTableRowsWrongFalsely : Prop := fnDecideAcceptsExactlyTableRowsRow.holds Try.pinned (OpenSpec.ofChange fnDecideAcceptsExactlyTableRowsWrong)

/-- 'zzlaws_internal_coordinator_b1.FnPauseAfterExact': WHATEVER THE INPUT: true; the input reads as it did. -/
def fnPauseAfterExactSpec : ChangeSpec := { name := "fnPauseAfterExact", fn := fun _ => fun
  | [d1, d2] => { results := [.lit (.bool true)], args := [d1, d2] }
  | _ => none }
def fnPauseAfterExactRow : OpenClaim := { program := "qxb6612369a", sum := "029a137e59fd988f588f5150a0a8cfd4aebe7c3be85f31fd3bb83df85569f142", func := "example.com/amends/amends/zzlaws_internal_coordinator_b1.FnPauseAfterExact", spec := "fnPauseAfterExact", apart := false }
def FnPauseAfterExactSaid : Prop := fnPauseAfterExactRow.holds Try.pinned (OpenSpec.ofChange fnPauseAfterExactSpec)

/-- ITS FALSE NEIGHBOUR: 'it returns false'. Refute it at one input. -/
def fnPauseAfterExactWrong : ChangeSpec := { name := "fnPauseAfterExact", fn := fun _ => fun
  | [d1, d2] => { results := [.lit (.bool false)], args := [d1, d2] }
  | _ => none }
def FnPauseAfterExactWrongFalsely : Prop := fnPauseAfterExactRow.holds Try.pinned (OpenSpec.ofChange fnPauseAfterExactWrong)

/-- 'zzlaws_internal_coordinator_b1.FnPauseAfterBoundsAndGrowth': WHATEVER THE INPUT: true; the input reads as it did. -/
def fnPauseAfterBoundsAndGrowthSpec : ChangeSpec := { name := "fnPauseAfterBoundsAndGrowth", fn := fun _ => fun
  | [d1, d2, d3] => { results := [.lit (.bool true)], args := [d1, d2, d3] }
  | _ => none }
def fnPauseAfterBoundsAndGrowthRow : OpenClaim := { program := "qxb6612369a", sum := "029a137e59fd988f588f5150a0a8cfd4aebe7c3be85f31fd3bb83df85569f142", func := "example.com/amends/amends/zzlaws_internal_coordinator_b1.FnPauseAfterBoundsAndGrowth", spec := "fnPauseAfterBoundsAndGrowth", apart := false }
def FnPauseAfterBoundsAndGrowthSaid : Prop := fnPauseAfterBoundsAndGrowthRow.holds Try.pinned (OpenSpec.ofChange fnPauseAfterBoundsAndGrowthSpec)

/-- ITS FALSE NEIGHBOUR: 'it returns false'. Refute it at one input. -/
def fnPauseAfterBoundsAndGrowthWrong : ChangeSpec := { name := "fnPauseAfterBoundsAndGrowth", fn := fun _ => fun
  | [d1, d2, d3] => { results := [.lit (.bool false)], args := [d1, d2, d3] }
  | _ => none }
def FnPauseAfterBoundsAndGrowthWrongFalsely : Prop := fnPauseAfterBoundsAndGrowthRow.holds Try.pinned (OpenSpec.ofChange fnPauseAfterBoundsAndGrowthWrong)

end Rows
end Go.Proofs.Qxb6612369a
