/-
  No cell of these rows narrows 'for every input' (looked for: loops, veiled, ifaces, maps, wideKeys, modest, calm, conditions, laid).
  DERIVED. THE GIVEN ROWS OF THIS SEAT. 2 by the template 'for every input the law returns true; each argument reads behind the call as it read before'; 0 by the template 'total and deterministic' (their statements: Qxb6600609aTotals.lean).
  GIVEN WITH THE SEED: the statements are not yours to turn. If you find one false, say at which input.
  Laid BY PROGRAM, IN A SANDBOX (cutbox-rows.mjs): the forced cells as the released guide's own fill.sh prints them over the translation 038bb303ced76cbe… (all of the seat's roots in one cut). By AI agents, Wed Nov 11 2026. No macro, syntax, notation, axiom, sorry.
-/
import Derived.Test.Qxb6600609aChecked
import GoSem.Claim
import GoSem.ClaimJoined
import GoSem.ClaimMapViews
import Derived.JoinedTies
import Derived.KernelRfl
namespace Go.Proofs.Qxb6600609a
/- THE CELL 'sum', in the pinned program and in every row, IS THE sha256 OF THE DUMP (.gsa) THAT Qxb6600609aProg.lean LOADS. Nothing in Lean hashes anything: it is a label: what it is worth is what the hold of that sum in a sandbox is worth. -/
noncomputable def Try.pinned : Pinned := { name := "qxb6600609a", sum := "038bb303ced76cbe92abceb7db924f10000e54d8e573c979c3c93bb9d8525f2e", checked := Try.checked }
namespace Rows
def none {H : Type} : Left H := { results := [], args := [] }

/-- 'zzlaws_internal_query_b1.FnBringInKeepsExactlyTheBroughtInPaths': WHATEVER THE INPUT: true; the input reads as it did. -/
def fnBringInKeepsExactlyTheBroughtInPathsSpec : ChangeSpec := { name := "fnBringInKeepsExactlyTheBroughtInPaths", fn := fun _ => fun
  | [d1, d2, d3, d4] => { results := [.lit (.bool true)], args := [d1, d2, d3, d4] }
  | _ => none }
def fnBringInKeepsExactlyTheBroughtInPathsRow : OpenClaim := { program := "qxb6600609a", sum := "038bb303ced76cbe92abceb7db924f10000e54d8e573c979c3c93bb9d8525f2e", func := "example.com/coxswain/coxswain/zzlaws_internal_query_b1.FnBringInKeepsExactlyTheBroughtInPaths", spec := "fnBringInKeepsExactlyTheBroughtInPaths", apart := false }
def FnBringInKeepsExactlyTheBroughtInPathsSaid : Prop := fnBringInKeepsExactlyTheBroughtInPathsRow.holds Try.pinned (OpenSpec.ofChange fnBringInKeepsExactlyTheBroughtInPathsSpec)

/-- ITS FALSE NEIGHBOUR: 'it returns false'. Refute it at one input. -/
def fnBringInKeepsExactlyTheBroughtInPathsWrong : ChangeSpec := { name := "fnBringInKeepsExactlyTheBroughtInPaths", fn := fun _ => fun
  | [d1, d2, d3, d4] => { results := [.lit (.bool false)], args := [d1, d2, d3, d4] }
  | _ => none }
def FnBringInKeepsExactlyTheBroughtInPathsWrongFalsely : Prop := fnBringInKeepsExactlyTheBroughtInPathsRow.holds Try.pinned (OpenSpec.ofChange fnBringInKeepsExactlyTheBroughtInPathsWrong)

/-- 'zzlaws_internal_query_b1.FnBringInIsOrderFreeAndIdempotent': WHATEVER THE INPUT: true; the input reads as it did. -/
def fnBringInIsOrderFreeAndIdempotentSpec : ChangeSpec := { name := "fnBringInIsOrderFreeAndIdempotent", fn := fun _ => fun
  | [d1, d2, d3, d4] => { results := [.lit (.bool true)], args := [d1, d2, d3, d4] }
  | _ => none }
def fnBringInIsOrderFreeAndIdempotentRow : OpenClaim := { program := "qxb6600609a", sum := "038bb303ced76cbe92abceb7db924f10000e54d8e573c979c3c93bb9d8525f2e", func := "example.com/coxswain/coxswain/zzlaws_internal_query_b1.FnBringInIsOrderFreeAndIdempotent", spec := "fnBringInIsOrderFreeAndIdempotent", apart := false }
def FnBringInIsOrderFreeAndIdempotentSaid : Prop := fnBringInIsOrderFreeAndIdempotentRow.holds Try.pinned (OpenSpec.ofChange fnBringInIsOrderFreeAndIdempotentSpec)

/-- ITS FALSE NEIGHBOUR: 'it returns false'. Refute it at one input. -/
def fnBringInIsOrderFreeAndIdempotentWrong : ChangeSpec := { name := "fnBringInIsOrderFreeAndIdempotent", fn := fun _ => fun
  | [d1, d2, d3, d4] => { results := [.lit (.bool false)], args := [d1, d2, d3, d4] }
  | _ => none }
def FnBringInIsOrderFreeAndIdempotentWrongFalsely : Prop := fnBringInIsOrderFreeAndIdempotentRow.holds Try.pinned (OpenSpec.ofChange fnBringInIsOrderFreeAndIdempotentWrong)

end Rows
end Go.Proofs.Qxb6600609a
