/-
  No cell of these rows narrows 'for every input' (looked for: loops, veiled, ifaces, maps, wideKeys, modest, calm, conditions, laid).
  DERIVED. THE GIVEN ROWS OF THIS SEAT. 2 by the template 'for every input the law returns true; each argument reads behind the call as it read before'; 0 by the template 'total and deterministic' (their statements: Qxb6601693aTotals.lean).
  GIVEN WITH THE SEED: the statements are not yours to turn. If you find one false, say at which input.
  Laid BY PROGRAM, IN A SANDBOX (cutbox-rows.mjs): the forced cells as the released guide's own fill.sh prints them over the translation 464da9a5eb90a341… (all of the seat's roots in one cut). By AI agents, Wed Nov 11 2026. No macro, syntax, notation, axiom, sorry.
-/
import Derived.Test.Qxb6601693aChecked
import GoSem.Claim
import GoSem.ClaimJoined
import GoSem.ClaimMapViews
import Derived.JoinedTies
import Derived.KernelRfl
namespace Go.Proofs.Qxb6601693a
/- THE CELL 'sum', in the pinned program and in every row, IS THE sha256 OF THE DUMP (.gsa) THAT Qxb6601693aProg.lean LOADS. Nothing in Lean hashes anything: it is a label: what it is worth is what the hold of that sum in a sandbox is worth. -/
noncomputable def Try.pinned : Pinned := { name := "qxb6601693a", sum := "464da9a5eb90a341de6dc796074685fe09b866f5b641190b0aa2365f9a381b1e", checked := Try.checked }
namespace Rows
def none {H : Type} : Left H := { results := [], args := [] }

/-- 'zzlaws_internal_access_b1.FnMergeResourcesFoldsRepeatsAtTheirFirstPlace': WHATEVER THE INPUT: true; the input reads as it did. -/
def fnMergeResourcesFoldsRepeatsAtTheirFirstPlaceSpec : ChangeSpec := { name := "fnMergeResourcesFoldsRepeatsAtTheirFirstPlace", fn := fun _ => fun
  | [d] => { results := [.lit (.bool true)], args := [d] }
  | _ => none }
def fnMergeResourcesFoldsRepeatsAtTheirFirstPlaceRow : OpenClaim := { program := "qxb6601693a", sum := "464da9a5eb90a341de6dc796074685fe09b866f5b641190b0aa2365f9a381b1e", func := "example.com/honeyguide/honeyguide/zzlaws_internal_access_b1.FnMergeResourcesFoldsRepeatsAtTheirFirstPlace", spec := "fnMergeResourcesFoldsRepeatsAtTheirFirstPlace", plainKeys := false, apart := false }
def FnMergeResourcesFoldsRepeatsAtTheirFirstPlaceSaid : Prop := fnMergeResourcesFoldsRepeatsAtTheirFirstPlaceRow.holds Try.pinned (OpenSpec.ofChange fnMergeResourcesFoldsRepeatsAtTheirFirstPlaceSpec)

/-- ITS FALSE NEIGHBOUR: 'it returns false'. Refute it at one input. -/
def fnMergeResourcesFoldsRepeatsAtTheirFirstPlaceWrong : ChangeSpec := { name := "fnMergeResourcesFoldsRepeatsAtTheirFirstPlace", fn := fun _ => fun
  | [d] => { results := [.lit (.bool false)], args := [d] }
  | _ => none }
def FnMergeResourcesFoldsRepeatsAtTheirFirstPlaceWrongFalsely : Prop := fnMergeResourcesFoldsRepeatsAtTheirFirstPlaceRow.holds Try.pinned (OpenSpec.ofChange fnMergeResourcesFoldsRepeatsAtTheirFirstPlaceWrong)

/-- 'zzlaws_internal_access_b1.FnMergeResourcesIsIdempotent': WHATEVER THE INPUT: true; the input reads as it did. -/
def fnMergeResourcesIsIdempotentSpec : ChangeSpec := { name := "fnMergeResourcesIsIdempotent", fn := fun _ => fun
  | [d] => { results := [.lit (.bool true)], args := [d] }
  | _ => none }
def fnMergeResourcesIsIdempotentRow : OpenClaim := { program := "qxb6601693a", sum := "464da9a5eb90a341de6dc796074685fe09b866f5b641190b0aa2365f9a381b1e", func := "example.com/honeyguide/honeyguide/zzlaws_internal_access_b1.FnMergeResourcesIsIdempotent", spec := "fnMergeResourcesIsIdempotent", plainKeys := false, apart := false }
def FnMergeResourcesIsIdempotentSaid : Prop := fnMergeResourcesIsIdempotentRow.holds Try.pinned (OpenSpec.ofChange fnMergeResourcesIsIdempotentSpec)

/-- ITS FALSE NEIGHBOUR: 'it returns false'. Refute it at one input. -/
def fnMergeResourcesIsIdempotentWrong : ChangeSpec := { name := "fnMergeResourcesIsIdempotent", fn := fun _ => fun
  | [d] => { results := [.lit (.bool false)], args := [d] }
  | _ => none }
def FnMergeResourcesIsIdempotentWrongFalsely : Prop := fnMergeResourcesIsIdempotentRow.holds Try.pinned (OpenSpec.ofChange fnMergeResourcesIsIdempotentWrong)

end Rows
end Go.Proofs.Qxb6601693a
