/-
  No cell of these rows narrows 'for every input' (looked for: loops, veiled, ifaces, maps, wideKeys, modest, calm, conditions, laid).
  DERIVED. THE GIVEN ROWS OF THIS SEAT. 6 by the template 'for every input the law returns true; each argument reads behind the call as it read before'; 0 by the template 'total and deterministic' (their statements: Qxb6601447aTotals.lean).
  GIVEN WITH THE SEED: the statements are not yours to turn. If you find one false, say at which input.
  Laid BY PROGRAM, IN A SANDBOX (cutbox-rows.mjs): the forced cells as the released guide's own fill.sh prints them over the translation 5b23c55691c901a3… (all of the seat's roots in one cut). By AI agents, Wed Nov 11 2026. No macro, syntax, notation, axiom, sorry.
-/
import Derived.Test.Qxb6601447aChecked
import GoSem.Claim
import GoSem.ClaimJoined
import GoSem.ClaimMapViews
import Derived.JoinedTies
import Derived.KernelRfl
namespace Go.Proofs.Qxb6601447a
/- THE CELL 'sum', in the pinned program and in every row, IS THE sha256 OF THE DUMP (.gsa) THAT Qxb6601447aProg.lean LOADS. Nothing in Lean hashes anything: it is a label: what it is worth is what the hold of that sum in a sandbox is worth. -/
noncomputable def Try.pinned : Pinned := { name := "qxb6601447a", sum := "5b23c55691c901a316af669d464450bf87c497fc60f1b907d3c61fa6d6a07be9", checked := Try.checked }
namespace Rows
def none {H : Type} : Left H := { results := [], args := [] }

/-- 'zzlaws_internal_world_b1.FnFirstOnCycleIsLeastSelfAncestor': WHATEVER THE INPUT: true; the input reads as it did. -/
def fnFirstOnCycleIsLeastSelfAncestorSpec : ChangeSpec := { name := "fnFirstOnCycleIsLeastSelfAncestor", fn := fun _ => fun
  | [d] => { results := [.lit (.bool true)], args := [d] }
  | _ => none }
def fnFirstOnCycleIsLeastSelfAncestorRow : OpenClaim := { program := "qxb6601447a", sum := "5b23c55691c901a316af669d464450bf87c497fc60f1b907d3c61fa6d6a07be9", func := "example.com/ramure/ramure/zzlaws_internal_world_b1.FnFirstOnCycleIsLeastSelfAncestor", spec := "fnFirstOnCycleIsLeastSelfAncestor", apart := false }
def FnFirstOnCycleIsLeastSelfAncestorSaid : Prop := fnFirstOnCycleIsLeastSelfAncestorRow.holds Try.pinned (OpenSpec.ofChange fnFirstOnCycleIsLeastSelfAncestorSpec)

/-- ITS FALSE NEIGHBOUR: 'it returns false'. Refute it at one input. -/
def fnFirstOnCycleIsLeastSelfAncestorWrong : ChangeSpec := { name := "fnFirstOnCycleIsLeastSelfAncestor", fn := fun _ => fun
  | [d] => { results := [.lit (.bool false)], args := [d] }
  | _ => none }
def FnFirstOnCycleIsLeastSelfAncestorWrongFalsely : Prop := fnFirstOnCycleIsLeastSelfAncestorRow.holds Try.pinned (OpenSpec.ofChange fnFirstOnCycleIsLeastSelfAncestorWrong)

/-- 'zzlaws_internal_world_b1.FnFirstOnCycleCutsAdvance': WHATEVER THE INPUT: true; the input reads as it did. -/
def fnFirstOnCycleCutsAdvanceSpec : ChangeSpec := { name := "fnFirstOnCycleCutsAdvance", fn := fun _ => fun
  | [d] => { results := [.lit (.bool true)], args := [d] }
  | _ => none }
def fnFirstOnCycleCutsAdvanceRow : OpenClaim := { program := "qxb6601447a", sum := "5b23c55691c901a316af669d464450bf87c497fc60f1b907d3c61fa6d6a07be9", func := "example.com/ramure/ramure/zzlaws_internal_world_b1.FnFirstOnCycleCutsAdvance", spec := "fnFirstOnCycleCutsAdvance", apart := false }
def FnFirstOnCycleCutsAdvanceSaid : Prop := fnFirstOnCycleCutsAdvanceRow.holds Try.pinned (OpenSpec.ofChange fnFirstOnCycleCutsAdvanceSpec)

/-- ITS FALSE NEIGHBOUR: 'it returns false'. Refute it at one input. -/
def fnFirstOnCycleCutsAdvanceWrong : ChangeSpec := { name := "fnFirstOnCycleCutsAdvance", fn := fun _ => fun
  | [d] => { results := [.lit (.bool false)], args := [d] }
  | _ => none }
def FnFirstOnCycleCutsAdvanceWrongFalsely : Prop := fnFirstOnCycleCutsAdvanceRow.holds Try.pinned (OpenSpec.ofChange fnFirstOnCycleCutsAdvanceWrong)

/-- 'zzlaws_internal_world_b1.FnTallyOfCountsEachNumber': WHATEVER THE INPUT: true; the input reads as it did. -/
def fnTallyOfCountsEachNumberSpec : ChangeSpec := { name := "fnTallyOfCountsEachNumber", fn := fun _ => fun
  | [d] => { results := [.lit (.bool true)], args := [d] }
  | _ => none }
def fnTallyOfCountsEachNumberRow : OpenClaim := { program := "qxb6601447a", sum := "5b23c55691c901a316af669d464450bf87c497fc60f1b907d3c61fa6d6a07be9", func := "example.com/ramure/ramure/zzlaws_internal_world_b1.FnTallyOfCountsEachNumber", spec := "fnTallyOfCountsEachNumber", recurses := true, apart := false }
def FnTallyOfCountsEachNumberSaid : Prop := fnTallyOfCountsEachNumberRow.holds Try.pinned (OpenSpec.ofChange fnTallyOfCountsEachNumberSpec)

/-- ITS FALSE NEIGHBOUR: 'it returns false'. Refute it at one input. -/
def fnTallyOfCountsEachNumberWrong : ChangeSpec := { name := "fnTallyOfCountsEachNumber", fn := fun _ => fun
  | [d] => { results := [.lit (.bool false)], args := [d] }
  | _ => none }
def FnTallyOfCountsEachNumberWrongFalsely : Prop := fnTallyOfCountsEachNumberRow.holds Try.pinned (OpenSpec.ofChange fnTallyOfCountsEachNumberWrong)

/-- 'zzlaws_internal_world_b1.FnTallyOfIgnoresOrder': WHATEVER THE INPUT: true; the input reads as it did. -/
def fnTallyOfIgnoresOrderSpec : ChangeSpec := { name := "fnTallyOfIgnoresOrder", fn := fun _ => fun
  | [d] => { results := [.lit (.bool true)], args := [d] }
  | _ => none }
def fnTallyOfIgnoresOrderRow : OpenClaim := { program := "qxb6601447a", sum := "5b23c55691c901a316af669d464450bf87c497fc60f1b907d3c61fa6d6a07be9", func := "example.com/ramure/ramure/zzlaws_internal_world_b1.FnTallyOfIgnoresOrder", spec := "fnTallyOfIgnoresOrder", recurses := true, apart := false }
def FnTallyOfIgnoresOrderSaid : Prop := fnTallyOfIgnoresOrderRow.holds Try.pinned (OpenSpec.ofChange fnTallyOfIgnoresOrderSpec)

/-- ITS FALSE NEIGHBOUR: 'it returns false'. Refute it at one input. -/
def fnTallyOfIgnoresOrderWrong : ChangeSpec := { name := "fnTallyOfIgnoresOrder", fn := fun _ => fun
  | [d] => { results := [.lit (.bool false)], args := [d] }
  | _ => none }
def FnTallyOfIgnoresOrderWrongFalsely : Prop := fnTallyOfIgnoresOrderRow.holds Try.pinned (OpenSpec.ofChange fnTallyOfIgnoresOrderWrong)

/-- 'zzlaws_internal_world_b1.FnTallySpansCountsFirstsAndLasts': WHATEVER THE INPUT: true; the input reads as it did. -/
def fnTallySpansCountsFirstsAndLastsSpec : ChangeSpec := { name := "fnTallySpansCountsFirstsAndLasts", fn := fun _ => fun
  | [d1, d2] => { results := [.lit (.bool true)], args := [d1, d2] }
  | _ => none }
def fnTallySpansCountsFirstsAndLastsRow : OpenClaim := { program := "qxb6601447a", sum := "5b23c55691c901a316af669d464450bf87c497fc60f1b907d3c61fa6d6a07be9", func := "example.com/ramure/ramure/zzlaws_internal_world_b1.FnTallySpansCountsFirstsAndLasts", spec := "fnTallySpansCountsFirstsAndLasts", recurses := true, apart := false }
def FnTallySpansCountsFirstsAndLastsSaid : Prop := fnTallySpansCountsFirstsAndLastsRow.holds Try.pinned (OpenSpec.ofChange fnTallySpansCountsFirstsAndLastsSpec)

/-- ITS FALSE NEIGHBOUR: 'it returns false'. Refute it at one input. -/
def fnTallySpansCountsFirstsAndLastsWrong : ChangeSpec := { name := "fnTallySpansCountsFirstsAndLasts", fn := fun _ => fun
  | [d1, d2] => { results := [.lit (.bool false)], args := [d1, d2] }
  | _ => none }
def FnTallySpansCountsFirstsAndLastsWrongFalsely : Prop := fnTallySpansCountsFirstsAndLastsRow.holds Try.pinned (OpenSpec.ofChange fnTallySpansCountsFirstsAndLastsWrong)

/-- 'zzlaws_internal_world_b1.FnTallySpansIgnoresOrder': WHATEVER THE INPUT: true; the input reads as it did. -/
def fnTallySpansIgnoresOrderSpec : ChangeSpec := { name := "fnTallySpansIgnoresOrder", fn := fun _ => fun
  | [d1, d2] => { results := [.lit (.bool true)], args := [d1, d2] }
  | _ => none }
def fnTallySpansIgnoresOrderRow : OpenClaim := { program := "qxb6601447a", sum := "5b23c55691c901a316af669d464450bf87c497fc60f1b907d3c61fa6d6a07be9", func := "example.com/ramure/ramure/zzlaws_internal_world_b1.FnTallySpansIgnoresOrder", spec := "fnTallySpansIgnoresOrder", recurses := true, apart := false }
def FnTallySpansIgnoresOrderSaid : Prop := fnTallySpansIgnoresOrderRow.holds Try.pinned (OpenSpec.ofChange fnTallySpansIgnoresOrderSpec)

/-- ITS FALSE NEIGHBOUR: 'it returns false'. Refute it at one input. -/
def fnTallySpansIgnoresOrderWrong : ChangeSpec := { name := "fnTallySpansIgnoresOrder", fn := fun _ => fun
  | [d1, d2] => { results := [.lit (.bool false)], args := [d1, d2] }
  | _ => none }
def FnTallySpansIgnoresOrderWrongFalsely : Prop := fnTallySpansIgnoresOrderRow.holds Try.pinned (OpenSpec.ofChange fnTallySpansIgnoresOrderWrong)

end Rows
end Go.Proofs.Qxb6601447a
