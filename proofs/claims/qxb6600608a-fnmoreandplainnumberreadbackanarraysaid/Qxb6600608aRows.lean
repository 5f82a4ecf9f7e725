/-
  No cell of these rows narrows 'for every input' (looked for: loops, veiled, ifaces, maps, wideKeys, modest, calm, conditions, laid).
  DERIVED. THE GIVEN ROWS OF THIS SEAT. 6 by the template 'for every input the law returns true; each argument reads behind the call as it read before'; 0 by the template 'total and deterministic' (their statements: Qxb6600608aTotals.lean).
  GIVEN WITH THE SEED: the statements are not yours to turn. If you find one false, say at which input.
  Laid BY PROGRAM, IN A SANDBOX (cutbox-rows.mjs): the forced cells as the released guide's own fill.sh prints them over the translation 6423a6cc0dfe3060… (all of the seat's roots in one cut). By AI agents, Wed Nov 11 2026. No macro, syntax, notation, axiom, sorry.
-/
import Derived.Test.Qxb6600608aChecked
import GoSem.Claim
import GoSem.ClaimJoined
import GoSem.ClaimMapViews
import Derived.JoinedTies
import Derived.KernelRfl
namespace Go.Proofs.Qxb6600608a
/- THE CELL 'sum', in the pinned program and in every row, IS THE sha256 OF THE DUMP (.gsa) THAT Qxb6600608aProg.lean LOADS. Nothing in Lean hashes anything: it is a label: what it is worth is what the hold of that sum in a sandbox is worth. -/
noncomputable def Try.pinned : Pinned := { name := "qxb6600608a", sum := "6423a6cc0dfe3060ab29b21a12824ef6d03939e1751710ca88f16118cebd8222", checked := Try.checked }
namespace Rows
def none {H : Type} : Left H := { results := [], args := [] }

/-- 'zzlaws_root_b1.FnSymbolSetAddAcceptsUntilFirstRepeat': WHATEVER THE INPUT: true; the input reads as it did. -/
def fnSymbolSetAddAcceptsUntilFirstRepeatSpec : ChangeSpec := { name := "fnSymbolSetAddAcceptsUntilFirstRepeat", fn := fun _ => fun
  | [d] => { results := [.lit (.bool true)], args := [d] }
  | _ => none }
def fnSymbolSetAddAcceptsUntilFirstRepeatRow : OpenClaim := { program := "qxb6600608a", sum := "6423a6cc0dfe3060ab29b21a12824ef6d03939e1751710ca88f16118cebd8222", func := "example.com/margincall/margincall/zzlaws_root_b1.FnSymbolSetAddAcceptsUntilFirstRepeat", spec := "fnSymbolSetAddAcceptsUntilFirstRepeat", apart := false }
def FnSymbolSetAddAcceptsUntilFirstRepeatSaid : Prop := fnSymbolSetAddAcceptsUntilFirstRepeatRow.holds Try.pinned (OpenSpec.ofChange fnSymbolSetAddAcceptsUntilFirstRepeatSpec)

/-- ITS FALSE NEIGHBOUR: 'it returns false'. Refute it at one input. -/
def fnSymbolSetAddAcceptsUntilFirstRepeatWrong : ChangeSpec := { name := "fnSymbolSetAddAcceptsUntilFirstRepeat", fn := fun _ => fun
  | [d] => { results := [.lit (.bool false)], args := [d] }
  | _ => none }
def FnSymbolSetAddAcceptsUntilFirstRepeatWrongFalsely : Prop := fnSymbolSetAddAcceptsUntilFirstRepeatRow.holds Try.pinned (OpenSpec.ofChange fnSymbolSetAddAcceptsUntilFirstRepeatWrong)

/-- 'zzlaws_root_b1.FnSymbolSetHasMatchesThePrefixAdded': WHATEVER THE INPUT: true; the input reads as it did. -/
def fnSymbolSetHasMatchesThePrefixAddedSpec : ChangeSpec := { name := "fnSymbolSetHasMatchesThePrefixAdded", fn := fun _ => fun
  | [d1, d2, d3] => { results := [.lit (.bool true)], args := [d1, d2, d3] }
  | _ => none }
def fnSymbolSetHasMatchesThePrefixAddedRow : OpenClaim := { program := "qxb6600608a", sum := "6423a6cc0dfe3060ab29b21a12824ef6d03939e1751710ca88f16118cebd8222", func := "example.com/margincall/margincall/zzlaws_root_b1.FnSymbolSetHasMatchesThePrefixAdded", spec := "fnSymbolSetHasMatchesThePrefixAdded", apart := false }
def FnSymbolSetHasMatchesThePrefixAddedSaid : Prop := fnSymbolSetHasMatchesThePrefixAddedRow.holds Try.pinned (OpenSpec.ofChange fnSymbolSetHasMatchesThePrefixAddedSpec)

/-- ITS FALSE NEIGHBOUR: 'it returns false'. Refute it at one input. -/
def fnSymbolSetHasMatchesThePrefixAddedWrong : ChangeSpec := { name := "fnSymbolSetHasMatchesThePrefixAdded", fn := fun _ => fun
  | [d1, d2, d3] => { results := [.lit (.bool false)], args := [d1, d2, d3] }
  | _ => none }
def FnSymbolSetHasMatchesThePrefixAddedWrongFalsely : Prop := fnSymbolSetHasMatchesThePrefixAddedRow.holds Try.pinned (OpenSpec.ofChange fnSymbolSetHasMatchesThePrefixAddedWrong)

/-- 'zzlaws_root_b1.FnPlainNumberMatchesNumberAutomaton': WHATEVER THE INPUT: true; the input reads as it did. -/
def fnPlainNumberMatchesNumberAutomatonSpec : ChangeSpec := { name := "fnPlainNumberMatchesNumberAutomaton", fn := fun _ => fun
  | [d1, d2, d3, d4] => { results := [.lit (.bool true)], args := [d1, d2, d3, d4] }
  | _ => none }
def fnPlainNumberMatchesNumberAutomatonRow : OpenClaim := { program := "qxb6600608a", sum := "6423a6cc0dfe3060ab29b21a12824ef6d03939e1751710ca88f16118cebd8222", func := "example.com/margincall/margincall/zzlaws_root_b1.FnPlainNumberMatchesNumberAutomaton", spec := "fnPlainNumberMatchesNumberAutomaton", apart := false }
def FnPlainNumberMatchesNumberAutomatonSaid : Prop := fnPlainNumberMatchesNumberAutomatonRow.holds Try.pinned (OpenSpec.ofChange fnPlainNumberMatchesNumberAutomatonSpec)

/-- ITS FALSE NEIGHBOUR: 'it returns false'. Refute it at one input. -/
def fnPlainNumberMatchesNumberAutomatonWrong : ChangeSpec := { name := "fnPlainNumberMatchesNumberAutomaton", fn := fun _ => fun
  | [d1, d2, d3, d4] => { results := [.lit (.bool false)], args := [d1, d2, d3, d4] }
  | _ => none }
def FnPlainNumberMatchesNumberAutomatonWrongFalsely : Prop := fnPlainNumberMatchesNumberAutomatonRow.holds Try.pinned (OpenSpec.ofChange fnPlainNumberMatchesNumberAutomatonWrong)

/-- 'zzlaws_root_b1.FnPlainNumberPartsTileTheNumber': WHATEVER THE INPUT: true; the input reads as it did. -/
def fnPlainNumberPartsTileTheNumberSpec : ChangeSpec := { name := "fnPlainNumberPartsTileTheNumber", fn := fun _ => fun
  | [d1, d2] => { results := [.lit (.bool true)], args := [d1, d2] }
  | _ => none }
def fnPlainNumberPartsTileTheNumberRow : OpenClaim := { program := "qxb6600608a", sum := "6423a6cc0dfe3060ab29b21a12824ef6d03939e1751710ca88f16118cebd8222", func := "example.com/margincall/margincall/zzlaws_root_b1.FnPlainNumberPartsTileTheNumber", spec := "fnPlainNumberPartsTileTheNumber", apart := false }
def FnPlainNumberPartsTileTheNumberSaid : Prop := fnPlainNumberPartsTileTheNumberRow.holds Try.pinned (OpenSpec.ofChange fnPlainNumberPartsTileTheNumberSpec)

/-- ITS FALSE NEIGHBOUR: 'it returns false'. Refute it at one input. -/
def fnPlainNumberPartsTileTheNumberWrong : ChangeSpec := { name := "fnPlainNumberPartsTileTheNumber", fn := fun _ => fun
  | [d1, d2] => { results := [.lit (.bool false)], args := [d1, d2] }
  | _ => none }
def FnPlainNumberPartsTileTheNumberWrongFalsely : Prop := fnPlainNumberPartsTileTheNumberRow.holds Try.pinned (OpenSpec.ofChange fnPlainNumberPartsTileTheNumberWrong)

/-- 'zzlaws_root_b1.FnPlainNumberRereadsItsOwnText': WHATEVER THE INPUT: true; the input reads as it did. -/
def fnPlainNumberRereadsItsOwnTextSpec : ChangeSpec := { name := "fnPlainNumberRereadsItsOwnText", fn := fun _ => fun
  | [d1, d2] => { results := [.lit (.bool true)], args := [d1, d2] }
  | _ => none }
def fnPlainNumberRereadsItsOwnTextRow : OpenClaim := { program := "qxb6600608a", sum := "6423a6cc0dfe3060ab29b21a12824ef6d03939e1751710ca88f16118cebd8222", func := "example.com/margincall/margincall/zzlaws_root_b1.FnPlainNumberRereadsItsOwnText", spec := "fnPlainNumberRereadsItsOwnText", apart := false }
def FnPlainNumberRereadsItsOwnTextSaid : Prop := fnPlainNumberRereadsItsOwnTextRow.holds Try.pinned (OpenSpec.ofChange fnPlainNumberRereadsItsOwnTextSpec)

/-- ITS FALSE NEIGHBOUR: 'it returns false'. Refute it at one input. -/
def fnPlainNumberRereadsItsOwnTextWrong : ChangeSpec := { name := "fnPlainNumberRereadsItsOwnText", fn := fun _ => fun
  | [d1, d2] => { results := [.lit (.bool false)], args := [d1, d2] }
  | _ => none }
def FnPlainNumberRereadsItsOwnTextWrongFalsely : Prop := fnPlainNumberRereadsItsOwnTextRow.holds Try.pinned (OpenSpec.ofChange fnPlainNumberRereadsItsOwnTextWrong)

/-- 'zzlaws_root_b1.FnMoreAndPlainNumberReadBackAnArray': WHATEVER THE INPUT: true; the input reads as it did. -/
def fnMoreAndPlainNumberReadBackAnArraySpec : ChangeSpec := { name := "fnMoreAndPlainNumberReadBackAnArray", fn := fun _ => fun
  | [d1, d2] => { results := [.lit (.bool true)], args := [d1, d2] }
  | _ => none }
def fnMoreAndPlainNumberReadBackAnArrayRow : OpenClaim := { program := "qxb6600608a", sum := "6423a6cc0dfe3060ab29b21a12824ef6d03939e1751710ca88f16118cebd8222", func := "example.com/margincall/margincall/zzlaws_root_b1.FnMoreAndPlainNumberReadBackAnArray", spec := "fnMoreAndPlainNumberReadBackAnArray", apart := false }
def FnMoreAndPlainNumberReadBackAnArraySaid : Prop := fnMoreAndPlainNumberReadBackAnArrayRow.holds Try.pinned (OpenSpec.ofChange fnMoreAndPlainNumberReadBackAnArraySpec)

/-- ITS FALSE NEIGHBOUR: 'it returns false'. Refute it at one input. -/
def fnMoreAndPlainNumberReadBackAnArrayWrong : ChangeSpec := { name := "fnMoreAndPlainNumberReadBackAnArray", fn := fun _ => fun
  | [d1, d2] => { results := [.lit (.bool false)], args := [d1, d2] }
  | _ => none }
def FnMoreAndPlainNumberReadBackAnArrayWrongFalsely : Prop := fnMoreAndPlainNumberReadBackAnArrayRow.holds Try.pinned (OpenSpec.ofChange fnMoreAndPlainNumberReadBackAnArrayWrong)

end Rows
end Go.Proofs.Qxb6600608a
