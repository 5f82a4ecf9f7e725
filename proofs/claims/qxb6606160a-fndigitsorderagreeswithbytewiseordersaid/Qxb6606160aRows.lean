/-
  No cell of these rows narrows 'for every input' (looked for: loops, veiled, ifaces, maps, wideKeys, modest, calm, conditions, laid).
  DERIVED. THE GIVEN ROWS OF THIS SEAT. 3 by the template 'for every input the law returns true; each argument reads behind the call as it read before'; 0 by the template 'total and deterministic' (their statements: Qxb6606160aTotals.lean).
  GIVEN WITH THE SEED: the statements are not yours to turn. If you find one false, say at which input.
  Laid BY PROGRAM, IN A SANDBOX (cutbox-rows.mjs): the forced cells as the released guide's own fill.sh prints them over the translation d1054563c2edd53a… (all of the seat's roots in one cut). By AI agents, Wed Nov 11 2026. No macro, syntax, notation, axiom, sorry.
-/
import Derived.Test.Qxb6606160aChecked
import GoSem.Claim
import GoSem.ClaimJoined
import GoSem.ClaimMapViews
import Derived.JoinedTies
import Derived.KernelRfl
namespace Go.Proofs.Qxb6606160a
/- THE CELL 'sum', in the pinned program and in every row, IS THE sha256 OF THE DUMP (.gsa) THAT Qxb6606160aProg.lean LOADS. Nothing in Lean hashes anything: it is a label: what it is worth is what the hold of that sum in a sandbox is worth. -/
noncomputable def Try.pinned : Pinned := { name := "qxb6606160a", sum := "d1054563c2edd53aa48e3dba3039a35f75e026cc3865f0f6d649f625efd856bc", checked := Try.checked }
namespace Rows
def none {H : Type} : Left H := { results := [], args := [] }

/-- 'zzlaws_internal_httpserve_b1.FnDigitsMatchesPlaceValueModel': WHATEVER THE INPUT: true; the input reads as it did. -/
def fnDigitsMatchesPlaceValueModelSpec : ChangeSpec := { name := "fnDigitsMatchesPlaceValueModel", fn := fun _ => fun
  | [d] => { results := [.lit (.bool true)], args := [d] }
  | _ => none }
def fnDigitsMatchesPlaceValueModelRow : OpenClaim := { program := "qxb6606160a", sum := "d1054563c2edd53aa48e3dba3039a35f75e026cc3865f0f6d649f625efd856bc", func := "example.com/ingolstadt/ingolstadt/zzlaws_internal_httpserve_b1.FnDigitsMatchesPlaceValueModel", spec := "fnDigitsMatchesPlaceValueModel", apart := false }
def FnDigitsMatchesPlaceValueModelSaid : Prop := fnDigitsMatchesPlaceValueModelRow.holds Try.pinned (OpenSpec.ofChange fnDigitsMatchesPlaceValueModelSpec)

/-- ITS FALSE NEIGHBOUR: 'it returns false'. Refute it at one input. -/
def fnDigitsMatchesPlaceValueModelWrong : ChangeSpec := { name := "fnDigitsMatchesPlaceValueModel", fn := fun _ => fun
  | [d] => { results := [.lit (.bool false)], args := [d] }
  | _ => none }
def FnDigitsMatchesPlaceValueModelWrongFalsely : Prop := fnDigitsMatchesPlaceValueModelRow.holds Try.pinned (OpenSpec.ofChange fnDigitsMatchesPlaceValueModelWrong)

/-- 'zzlaws_internal_httpserve_b1.FnDigitsReadsBackPaddedDecimal': WHATEVER THE INPUT: true; the input reads as it did. -/
def fnDigitsReadsBackPaddedDecimalSpec : ChangeSpec := { name := "fnDigitsReadsBackPaddedDecimal", fn := fun _ => fun
  | [d1, d2] => { results := [.lit (.bool true)], args := [d1, d2] }
  | _ => none }
def fnDigitsReadsBackPaddedDecimalRow : OpenClaim := { program := "qxb6606160a", sum := "d1054563c2edd53aa48e3dba3039a35f75e026cc3865f0f6d649f625efd856bc", func := "example.com/ingolstadt/ingolstadt/zzlaws_internal_httpserve_b1.FnDigitsReadsBackPaddedDecimal", spec := "fnDigitsReadsBackPaddedDecimal", apart := false }
def FnDigitsReadsBackPaddedDecimalSaid : Prop := fnDigitsReadsBackPaddedDecimalRow.holds Try.pinned (OpenSpec.ofChange fnDigitsReadsBackPaddedDecimalSpec)

/-- ITS FALSE NEIGHBOUR: 'it returns false'. Refute it at one input. -/
def fnDigitsReadsBackPaddedDecimalWrong : ChangeSpec := { name := "fnDigitsReadsBackPaddedDecimal", fn := fun _ => fun
  | [d1, d2] => { results := [.lit (.bool false)], args := [d1, d2] }
  | _ => none }
def FnDigitsReadsBackPaddedDecimalWrongFalsely : Prop := fnDigitsReadsBackPaddedDecimalRow.holds Try.pinned (OpenSpec.ofChange fnDigitsReadsBackPaddedDecimalWrong)

/-- 'zzlaws_internal_httpserve_b1.FnDigitsOrderAgreesWithBytewiseOrder': WHATEVER THE INPUT: true; the input reads as it did. -/
def fnDigitsOrderAgreesWithBytewiseOrderSpec : ChangeSpec := { name := "fnDigitsOrderAgreesWithBytewiseOrder", fn := fun _ => fun
  | [d1, d2] => { results := [.lit (.bool true)], args := [d1, d2] }
  | _ => none }
def fnDigitsOrderAgreesWithBytewiseOrderRow : OpenClaim := { program := "qxb6606160a", sum := "d1054563c2edd53aa48e3dba3039a35f75e026cc3865f0f6d649f625efd856bc", func := "example.com/ingolstadt/ingolstadt/zzlaws_internal_httpserve_b1.FnDigitsOrderAgreesWithBytewiseOrder", spec := "fnDigitsOrderAgreesWithBytewiseOrder", apart := false }
def FnDigitsOrderAgreesWithBytewiseOrderSaid : Prop := fnDigitsOrderAgreesWithBytewiseOrderRow.holds Try.pinned (OpenSpec.ofChange fnDigitsOrderAgreesWithBytewiseOrderSpec)

/-- ITS FALSE NEIGHBOUR: 'it returns false'. Refute it at one input. -/
def fnDigitsOrderAgreesWithBytewiseOrderWrong : ChangeSpec := { name := "fnDigitsOrderAgreesWithBytewiseOrder", fn := fun _ => fun
  | [d1, d2] => { results := [.lit (.bool false)], args := [d1, d2] }
  | _ => none }
def FnDigitsOrderAgreesWithBytewiseOrderWrongFalsely : Prop := fnDigitsOrderAgreesWithBytewiseOrderRow.holds Try.pinned (OpenSpec.ofChange fnDigitsOrderAgreesWithBytewiseOrderWrong)

end Rows
end Go.Proofs.Qxb6606160a
