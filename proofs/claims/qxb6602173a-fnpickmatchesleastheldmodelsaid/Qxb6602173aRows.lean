/-
  No cell of these rows narrows 'for every input' (looked for: loops, veiled, ifaces, maps, wideKeys, modest, calm, conditions, laid).
  DERIVED. THE GIVEN ROWS OF THIS SEAT. 6 by the template 'for every input the law returns true; each argument reads behind the call as it read before'; 0 by the template 'total and deterministic' (their statements: Qxb6602173aTotals.lean).
  GIVEN WITH THE SEED: the statements are not yours to turn. If you find one false, say at which input.
  Laid BY PROGRAM, IN A SANDBOX (cutbox-rows.mjs): the forced cells as the released guide's own fill.sh prints them over the translation b606f5876f4738b7… (all of the seat's roots in one cut). By AI agents, Wed Nov 11 2026. No macro, syntax, notation, axiom, sorry.
-/
import Derived.Test.Qxb6602173aChecked
import GoSem.Claim
import GoSem.ClaimJoined
import GoSem.ClaimMapViews
import Derived.JoinedTies
import Derived.KernelRfl
namespace Go.Proofs.Qxb6602173a
/- THE CELL 'sum', in the pinned program and in every row, IS THE sha256 OF THE DUMP (.gsa) THAT Qxb6602173aProg.lean LOADS. Nothing in Lean hashes anything: it is a label: what it is worth is what the hold of that sum in a sandbox is worth. -/
noncomputable def Try.pinned : Pinned := { name := "qxb6602173a", sum := "b606f5876f4738b744b711005e17dc0a3421a00ec0a3f6210add8434e2c4637a", checked := Try.checked }
namespace Rows
def none {H : Type} : Left H := { results := [], args := [] }

/-- 'zzlaws_pkg_picker_b1.FnPickMatchesLeastHeldModel': WHATEVER THE INPUT: true; the input reads as it did. -/
def fnPickMatchesLeastHeldModelSpec : ChangeSpec := { name := "fnPickMatchesLeastHeldModel", fn := fun _ => fun
  | [d1, d2, d3, d4, d5, d6, d7, d8, d9, d10, d11, d12] => { results := [.lit (.bool true)], args := [d1, d2, d3, d4, d5, d6, d7, d8, d9, d10, d11, d12] }
  | _ => none }
def fnPickMatchesLeastHeldModelRow : OpenClaim := { program := "qxb6602173a", sum := "b606f5876f4738b744b711005e17dc0a3421a00ec0a3f6210add8434e2c4637a", func := "example.com/spate/spate/zzlaws_pkg_picker_b1.FnPickMatchesLeastHeldModel", spec := "fnPickMatchesLeastHeldModel", apart := false }
def FnPickMatchesLeastHeldModelSaid : Prop := fnPickMatchesLeastHeldModelRow.holds Try.pinned (OpenSpec.ofChange fnPickMatchesLeastHeldModelSpec)

/-- ITS FALSE NEIGHBOUR: 'it returns false'. Refute it at one input. -/
def fnPickMatchesLeastHeldModelWrong : ChangeSpec := { name := "fnPickMatchesLeastHeldModel", fn := fun _ => fun
  | [d1, d2, d3, d4, d5, d6, d7, d8, d9, d10, d11, d12] => { results := [.lit (.bool false)], args := [d1, d2, d3, d4, d5, d6, d7, d8, d9, d10, d11, d12] }
  | _ => none }
def FnPickMatchesLeastHeldModelWrongFalsely : Prop := fnPickMatchesLeastHeldModelRow.holds Try.pinned (OpenSpec.ofChange fnPickMatchesLeastHeldModelWrong)

/-- 'zzlaws_pkg_picker_b1.FnPickNeverHandsTheSamePeerAPieceTwice': WHATEVER THE INPUT: true; the input reads as it did. -/
def fnPickNeverHandsTheSamePeerAPieceTwiceSpec : ChangeSpec := { name := "fnPickNeverHandsTheSamePeerAPieceTwice", fn := fun _ => fun
  | [d1, d2, d3, d4, d5, d6, d7, d8, d9, d10, d11, d12] => { results := [.lit (.bool true)], args := [d1, d2, d3, d4, d5, d6, d7, d8, d9, d10, d11, d12] }
  | _ => none }
def fnPickNeverHandsTheSamePeerAPieceTwiceRow : OpenClaim := { program := "qxb6602173a", sum := "b606f5876f4738b744b711005e17dc0a3421a00ec0a3f6210add8434e2c4637a", func := "example.com/spate/spate/zzlaws_pkg_picker_b1.FnPickNeverHandsTheSamePeerAPieceTwice", spec := "fnPickNeverHandsTheSamePeerAPieceTwice", apart := false }
def FnPickNeverHandsTheSamePeerAPieceTwiceSaid : Prop := fnPickNeverHandsTheSamePeerAPieceTwiceRow.holds Try.pinned (OpenSpec.ofChange fnPickNeverHandsTheSamePeerAPieceTwiceSpec)

/-- ITS FALSE NEIGHBOUR: 'it returns false'. Refute it at one input. -/
def fnPickNeverHandsTheSamePeerAPieceTwiceWrong : ChangeSpec := { name := "fnPickNeverHandsTheSamePeerAPieceTwice", fn := fun _ => fun
  | [d1, d2, d3, d4, d5, d6, d7, d8, d9, d10, d11, d12] => { results := [.lit (.bool false)], args := [d1, d2, d3, d4, d5, d6, d7, d8, d9, d10, d11, d12] }
  | _ => none }
def FnPickNeverHandsTheSamePeerAPieceTwiceWrongFalsely : Prop := fnPickNeverHandsTheSamePeerAPieceTwiceRow.holds Try.pinned (OpenSpec.ofChange fnPickNeverHandsTheSamePeerAPieceTwiceWrong)

/-- 'zzlaws_pkg_picker_b1.FnVerifyMatchesBucketModel': WHATEVER THE INPUT: true; the input reads as it did. -/
def fnVerifyMatchesBucketModelSpec : ChangeSpec := { name := "fnVerifyMatchesBucketModel", fn := fun _ => fun
  | [d1, d2, d3, d4, d5, d6, d7, d8, d9, d10] => { results := [.lit (.bool true)], args := [d1, d2, d3, d4, d5, d6, d7, d8, d9, d10] }
  | _ => none }
def fnVerifyMatchesBucketModelRow : OpenClaim := { program := "qxb6602173a", sum := "b606f5876f4738b744b711005e17dc0a3421a00ec0a3f6210add8434e2c4637a", func := "example.com/spate/spate/zzlaws_pkg_picker_b1.FnVerifyMatchesBucketModel", spec := "fnVerifyMatchesBucketModel", apart := false }
def FnVerifyMatchesBucketModelSaid : Prop := fnVerifyMatchesBucketModelRow.holds Try.pinned (OpenSpec.ofChange fnVerifyMatchesBucketModelSpec)

/-- ITS FALSE NEIGHBOUR: 'it returns false'. Refute it at one input. -/
def fnVerifyMatchesBucketModelWrong : ChangeSpec := { name := "fnVerifyMatchesBucketModel", fn := fun _ => fun
  | [d1, d2, d3, d4, d5, d6, d7, d8, d9, d10] => { results := [.lit (.bool false)], args := [d1, d2, d3, d4, d5, d6, d7, d8, d9, d10] }
  | _ => none }
def FnVerifyMatchesBucketModelWrongFalsely : Prop := fnVerifyMatchesBucketModelRow.holds Try.pinned (OpenSpec.ofChange fnVerifyMatchesBucketModelWrong)

/-- 'zzlaws_pkg_picker_b1.FnVerifiedPieceIsNeverPickedAgain': WHATEVER THE INPUT: true; the input reads as it did. -/
def fnVerifiedPieceIsNeverPickedAgainSpec : ChangeSpec := { name := "fnVerifiedPieceIsNeverPickedAgain", fn := fun _ => fun
  | [d1, d2, d3, d4, d5, d6, d7, d8, d9, d10, d11, d12] => { results := [.lit (.bool true)], args := [d1, d2, d3, d4, d5, d6, d7, d8, d9, d10, d11, d12] }
  | _ => none }
def fnVerifiedPieceIsNeverPickedAgainRow : OpenClaim := { program := "qxb6602173a", sum := "b606f5876f4738b744b711005e17dc0a3421a00ec0a3f6210add8434e2c4637a", func := "example.com/spate/spate/zzlaws_pkg_picker_b1.FnVerifiedPieceIsNeverPickedAgain", spec := "fnVerifiedPieceIsNeverPickedAgain", apart := false }
def FnVerifiedPieceIsNeverPickedAgainSaid : Prop := fnVerifiedPieceIsNeverPickedAgainRow.holds Try.pinned (OpenSpec.ofChange fnVerifiedPieceIsNeverPickedAgainSpec)

/-- ITS FALSE NEIGHBOUR: 'it returns false'. Refute it at one input. -/
def fnVerifiedPieceIsNeverPickedAgainWrong : ChangeSpec := { name := "fnVerifiedPieceIsNeverPickedAgain", fn := fun _ => fun
  | [d1, d2, d3, d4, d5, d6, d7, d8, d9, d10, d11, d12] => { results := [.lit (.bool false)], args := [d1, d2, d3, d4, d5, d6, d7, d8, d9, d10, d11, d12] }
  | _ => none }
def FnVerifiedPieceIsNeverPickedAgainWrongFalsely : Prop := fnVerifiedPieceIsNeverPickedAgainRow.holds Try.pinned (OpenSpec.ofChange fnVerifiedPieceIsNeverPickedAgainWrong)

/-- 'zzlaws_pkg_picker_b1.FnGainMatchesBucketModel': WHATEVER THE INPUT: true; the input reads as it did. -/
def fnGainMatchesBucketModelSpec : ChangeSpec := { name := "fnGainMatchesBucketModel", fn := fun _ => fun
  | [d1, d2, d3, d4, d5, d6, d7, d8, d9, d10] => { results := [.lit (.bool true)], args := [d1, d2, d3, d4, d5, d6, d7, d8, d9, d10] }
  | _ => none }
def fnGainMatchesBucketModelRow : OpenClaim := { program := "qxb6602173a", sum := "b606f5876f4738b744b711005e17dc0a3421a00ec0a3f6210add8434e2c4637a", func := "example.com/spate/spate/zzlaws_pkg_picker_b1.FnGainMatchesBucketModel", spec := "fnGainMatchesBucketModel", apart := false }
def FnGainMatchesBucketModelSaid : Prop := fnGainMatchesBucketModelRow.holds Try.pinned (OpenSpec.ofChange fnGainMatchesBucketModelSpec)

/-- ITS FALSE NEIGHBOUR: 'it returns false'. Refute it at one input. -/
def fnGainMatchesBucketModelWrong : ChangeSpec := { name := "fnGainMatchesBucketModel", fn := fun _ => fun
  | [d1, d2, d3, d4, d5, d6, d7, d8, d9, d10] => { results := [.lit (.bool false)], args := [d1, d2, d3, d4, d5, d6, d7, d8, d9, d10] }
  | _ => none }
def FnGainMatchesBucketModelWrongFalsely : Prop := fnGainMatchesBucketModelRow.holds Try.pinned (OpenSpec.ofChange fnGainMatchesBucketModelWrong)

/-- 'zzlaws_pkg_picker_b1.FnGainScriptKeepsPickerWellFormed': WHATEVER THE INPUT: true; the input reads as it did. -/
def fnGainScriptKeepsPickerWellFormedSpec : ChangeSpec := { name := "fnGainScriptKeepsPickerWellFormed", fn := fun _ => fun
  | [d1, d2, d3, d4, d5, d6, d7, d8, d9, d10] => { results := [.lit (.bool true)], args := [d1, d2, d3, d4, d5, d6, d7, d8, d9, d10] }
  | _ => none }
def fnGainScriptKeepsPickerWellFormedRow : OpenClaim := { program := "qxb6602173a", sum := "b606f5876f4738b744b711005e17dc0a3421a00ec0a3f6210add8434e2c4637a", func := "example.com/spate/spate/zzlaws_pkg_picker_b1.FnGainScriptKeepsPickerWellFormed", spec := "fnGainScriptKeepsPickerWellFormed", apart := false }
def FnGainScriptKeepsPickerWellFormedSaid : Prop := fnGainScriptKeepsPickerWellFormedRow.holds Try.pinned (OpenSpec.ofChange fnGainScriptKeepsPickerWellFormedSpec)

/-- ITS FALSE NEIGHBOUR: 'it returns false'. Refute it at one input. -/
def fnGainScriptKeepsPickerWellFormedWrong : ChangeSpec := { name := "fnGainScriptKeepsPickerWellFormed", fn := fun _ => fun
  | [d1, d2, d3, d4, d5, d6, d7, d8, d9, d10] => { results := [.lit (.bool false)], args := [d1, d2, d3, d4, d5, d6, d7, d8, d9, d10] }
  | _ => none }
def FnGainScriptKeepsPickerWellFormedWrongFalsely : Prop := fnGainScriptKeepsPickerWellFormedRow.holds Try.pinned (OpenSpec.ofChange fnGainScriptKeepsPickerWellFormedWrong)

end Rows
end Go.Proofs.Qxb6602173a
