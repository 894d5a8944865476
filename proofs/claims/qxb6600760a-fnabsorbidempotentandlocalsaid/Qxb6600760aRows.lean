/-
  No cell of these rows narrows 'for every input' (looked for: loops, veiled, ifaces, maps, wideKeys, modest, calm, conditions, laid).
  DERIVED. THE GIVEN ROWS OF THIS SEAT. 8 by the template 'for every input the law returns true; each argument reads behind the call as it read before'; 0 by the template 'total and deterministic' (their statements: Qxb6600760aTotals.lean).
  GIVEN WITH THE SEED: the statements are not yours to turn. If you find one false, say at which input.
  Laid BY PROGRAM, IN A SANDBOX (cutbox-rows.mjs): the forced cells as the released guide's own fill.sh prints them over the translation f50d1bcdb61bc47c… (all of the seat's roots in one cut). By AI agents, Wed Nov 11 2026. No macro, syntax, notation, axiom, sorry.
-/
import Derived.Test.Qxb6600760aChecked
import GoSem.Claim
import GoSem.ClaimJoined
import GoSem.ClaimMapViews
import Derived.JoinedTies
import Derived.KernelRfl
namespace Go.Proofs.Qxb6600760a
/- THE CELL 'sum', in the pinned program and in every row, IS THE sha256 OF THE DUMP (.gsa) THAT Qxb6600760aProg.lean LOADS. Nothing in Lean hashes anything: it is a label: what it is worth is what the hold of that sum in a sandbox is worth. -/
noncomputable def Try.pinned : Pinned := { name := "qxb6600760a", sum := "f50d1bcdb61bc47c0a466fdf082323adfd35f7e3a25857cfad2878dab0f6d9ef", checked := Try.checked }
namespace Rows
def none {H : Type} : Left H := { results := [], args := [] }

/-- 'zzlaws_internal_causal_b1.FnUniteIsCanonicalUnion': WHATEVER THE INPUT: true; the input reads as it did. -/
def fnUniteIsCanonicalUnionSpec : ChangeSpec := { name := "fnUniteIsCanonicalUnion", fn := fun _ => fun
  | [d1, d2] => { results := [.lit (.bool true)], args := [d1, d2] }
  | _ => none }
def fnUniteIsCanonicalUnionRow : OpenClaim := { program := "qxb6600760a", sum := "f50d1bcdb61bc47c0a466fdf082323adfd35f7e3a25857cfad2878dab0f6d9ef", func := "example.com/dotwise/dotwise/zzlaws_internal_causal_b1.FnUniteIsCanonicalUnion", spec := "fnUniteIsCanonicalUnion", apart := false }
def FnUniteIsCanonicalUnionSaid : Prop := fnUniteIsCanonicalUnionRow.holds Try.pinned (OpenSpec.ofChange fnUniteIsCanonicalUnionSpec)

/-- ITS FALSE NEIGHBOUR: 'it returns false'. Refute it at one input. -/
def fnUniteIsCanonicalUnionWrong : ChangeSpec := { name := "fnUniteIsCanonicalUnion", fn := fun _ => fun
  | [d1, d2] => { results := [.lit (.bool false)], args := [d1, d2] }
  | _ => none }
def FnUniteIsCanonicalUnionWrongFalsely : Prop := fnUniteIsCanonicalUnionRow.holds Try.pinned (OpenSpec.ofChange fnUniteIsCanonicalUnionWrong)

/-- 'zzlaws_internal_causal_b1.FnUniteCommutes': WHATEVER THE INPUT: true; the input reads as it did. -/
def fnUniteCommutesSpec : ChangeSpec := { name := "fnUniteCommutes", fn := fun _ => fun
  | [d1, d2] => { results := [.lit (.bool true)], args := [d1, d2] }
  | _ => none }
def fnUniteCommutesRow : OpenClaim := { program := "qxb6600760a", sum := "f50d1bcdb61bc47c0a466fdf082323adfd35f7e3a25857cfad2878dab0f6d9ef", func := "example.com/dotwise/dotwise/zzlaws_internal_causal_b1.FnUniteCommutes", spec := "fnUniteCommutes", apart := false }
def FnUniteCommutesSaid : Prop := fnUniteCommutesRow.holds Try.pinned (OpenSpec.ofChange fnUniteCommutesSpec)

/-- ITS FALSE NEIGHBOUR: 'it returns false'. Refute it at one input. -/
def fnUniteCommutesWrong : ChangeSpec := { name := "fnUniteCommutes", fn := fun _ => fun
  | [d1, d2] => { results := [.lit (.bool false)], args := [d1, d2] }
  | _ => none }
def FnUniteCommutesWrongFalsely : Prop := fnUniteCommutesRow.holds Try.pinned (OpenSpec.ofChange fnUniteCommutesWrong)

/-- 'zzlaws_internal_causal_b1.FnUniteAssociates': WHATEVER THE INPUT: true; the input reads as it did. -/
def fnUniteAssociatesSpec : ChangeSpec := { name := "fnUniteAssociates", fn := fun _ => fun
  | [d1, d2, d3] => { results := [.lit (.bool true)], args := [d1, d2, d3] }
  | _ => none }
def fnUniteAssociatesRow : OpenClaim := { program := "qxb6600760a", sum := "f50d1bcdb61bc47c0a466fdf082323adfd35f7e3a25857cfad2878dab0f6d9ef", func := "example.com/dotwise/dotwise/zzlaws_internal_causal_b1.FnUniteAssociates", spec := "fnUniteAssociates", apart := false }
def FnUniteAssociatesSaid : Prop := fnUniteAssociatesRow.holds Try.pinned (OpenSpec.ofChange fnUniteAssociatesSpec)

/-- ITS FALSE NEIGHBOUR: 'it returns false'. Refute it at one input. -/
def fnUniteAssociatesWrong : ChangeSpec := { name := "fnUniteAssociates", fn := fun _ => fun
  | [d1, d2, d3] => { results := [.lit (.bool false)], args := [d1, d2, d3] }
  | _ => none }
def FnUniteAssociatesWrongFalsely : Prop := fnUniteAssociatesRow.holds Try.pinned (OpenSpec.ofChange fnUniteAssociatesWrong)

/-- 'zzlaws_internal_causal_b1.FnContainsMatchesScan': WHATEVER THE INPUT: true; the input reads as it did. -/
def fnContainsMatchesScanSpec : ChangeSpec := { name := "fnContainsMatchesScan", fn := fun _ => fun
  | [d1, d2, d3, d4, d5] => { results := [.lit (.bool true)], args := [d1, d2, d3, d4, d5] }
  | _ => none }
def fnContainsMatchesScanRow : OpenClaim := { program := "qxb6600760a", sum := "f50d1bcdb61bc47c0a466fdf082323adfd35f7e3a25857cfad2878dab0f6d9ef", func := "example.com/dotwise/dotwise/zzlaws_internal_causal_b1.FnContainsMatchesScan", spec := "fnContainsMatchesScan", unfollowed := true, recurses := true, apart := false }
def FnContainsMatchesScanSaid : Prop := fnContainsMatchesScanRow.holds Try.pinned (OpenSpec.ofChange fnContainsMatchesScanSpec)

/-- ITS FALSE NEIGHBOUR: 'it returns false'. Refute it at one input. -/
def fnContainsMatchesScanWrong : ChangeSpec := { name := "fnContainsMatchesScan", fn := fun _ => fun
  | [d1, d2, d3, d4, d5] => { results := [.lit (.bool false)], args := [d1, d2, d3, d4, d5] }
  | _ => none }
def FnContainsMatchesScanWrongFalsely : Prop := fnContainsMatchesScanRow.holds Try.pinned (OpenSpec.ofChange fnContainsMatchesScanWrong)

/-- 'zzlaws_internal_causal_b1.FnContainsOfUniteIsOr': WHATEVER THE INPUT: true; the input reads as it did. -/
def fnContainsOfUniteIsOrSpec : ChangeSpec := { name := "fnContainsOfUniteIsOr", fn := fun _ => fun
  | [d1, d2, d3, d4, d5, d6] => { results := [.lit (.bool true)], args := [d1, d2, d3, d4, d5, d6] }
  | _ => none }
def fnContainsOfUniteIsOrRow : OpenClaim := { program := "qxb6600760a", sum := "f50d1bcdb61bc47c0a466fdf082323adfd35f7e3a25857cfad2878dab0f6d9ef", func := "example.com/dotwise/dotwise/zzlaws_internal_causal_b1.FnContainsOfUniteIsOr", spec := "fnContainsOfUniteIsOr", unfollowed := true, recurses := true, apart := false }
def FnContainsOfUniteIsOrSaid : Prop := fnContainsOfUniteIsOrRow.holds Try.pinned (OpenSpec.ofChange fnContainsOfUniteIsOrSpec)

/-- ITS FALSE NEIGHBOUR: 'it returns false'. Refute it at one input. -/
def fnContainsOfUniteIsOrWrong : ChangeSpec := { name := "fnContainsOfUniteIsOr", fn := fun _ => fun
  | [d1, d2, d3, d4, d5, d6] => { results := [.lit (.bool false)], args := [d1, d2, d3, d4, d5, d6] }
  | _ => none }
def FnContainsOfUniteIsOrWrongFalsely : Prop := fnContainsOfUniteIsOrRow.holds Try.pinned (OpenSpec.ofChange fnContainsOfUniteIsOrWrong)

/-- 'zzlaws_internal_causal_b1.FnAbsorbNormalises': WHATEVER THE INPUT: true; the input reads as it did. -/
def fnAbsorbNormalisesSpec : ChangeSpec := { name := "fnAbsorbNormalises", fn := fun _ => fun
  | [d1, d2, d3] => { results := [.lit (.bool true)], args := [d1, d2, d3] }
  | _ => none }
def fnAbsorbNormalisesRow : OpenClaim := { program := "qxb6600760a", sum := "f50d1bcdb61bc47c0a466fdf082323adfd35f7e3a25857cfad2878dab0f6d9ef", func := "example.com/dotwise/dotwise/zzlaws_internal_causal_b1.FnAbsorbNormalises", spec := "fnAbsorbNormalises", apart := false }
def FnAbsorbNormalisesSaid : Prop := fnAbsorbNormalisesRow.holds Try.pinned (OpenSpec.ofChange fnAbsorbNormalisesSpec)

/-- ITS FALSE NEIGHBOUR: 'it returns false'. Refute it at one input. -/
def fnAbsorbNormalisesWrong : ChangeSpec := { name := "fnAbsorbNormalises", fn := fun _ => fun
  | [d1, d2, d3] => { results := [.lit (.bool false)], args := [d1, d2, d3] }
  | _ => none }
def FnAbsorbNormalisesWrongFalsely : Prop := fnAbsorbNormalisesRow.holds Try.pinned (OpenSpec.ofChange fnAbsorbNormalisesWrong)

/-- 'zzlaws_internal_causal_b1.FnAbsorbKeepsContains': WHATEVER THE INPUT: true; the input reads as it did. -/
def fnAbsorbKeepsContainsSpec : ChangeSpec := { name := "fnAbsorbKeepsContains", fn := fun _ => fun
  | [d1, d2, d3, d4, d5, d6, d7, d8] => { results := [.lit (.bool true)], args := [d1, d2, d3, d4, d5, d6, d7, d8] }
  | _ => none }
def fnAbsorbKeepsContainsRow : OpenClaim := { program := "qxb6600760a", sum := "f50d1bcdb61bc47c0a466fdf082323adfd35f7e3a25857cfad2878dab0f6d9ef", func := "example.com/dotwise/dotwise/zzlaws_internal_causal_b1.FnAbsorbKeepsContains", spec := "fnAbsorbKeepsContains", unfollowed := true, recurses := true, apart := false }
def FnAbsorbKeepsContainsSaid : Prop := fnAbsorbKeepsContainsRow.holds Try.pinned (OpenSpec.ofChange fnAbsorbKeepsContainsSpec)

/-- ITS FALSE NEIGHBOUR: 'it returns false'. Refute it at one input. -/
def fnAbsorbKeepsContainsWrong : ChangeSpec := { name := "fnAbsorbKeepsContains", fn := fun _ => fun
  | [d1, d2, d3, d4, d5, d6, d7, d8] => { results := [.lit (.bool false)], args := [d1, d2, d3, d4, d5, d6, d7, d8] }
  | _ => none }
def FnAbsorbKeepsContainsWrongFalsely : Prop := fnAbsorbKeepsContainsRow.holds Try.pinned (OpenSpec.ofChange fnAbsorbKeepsContainsWrong)

/-- 'zzlaws_internal_causal_b1.FnAbsorbIdempotentAndLocal': WHATEVER THE INPUT: true; the input reads as it did. -/
def fnAbsorbIdempotentAndLocalSpec : ChangeSpec := { name := "fnAbsorbIdempotentAndLocal", fn := fun _ => fun
  | [d1, d2, d3, d4, d5, d6] => { results := [.lit (.bool true)], args := [d1, d2, d3, d4, d5, d6] }
  | _ => none }
def fnAbsorbIdempotentAndLocalRow : OpenClaim := { program := "qxb6600760a", sum := "f50d1bcdb61bc47c0a466fdf082323adfd35f7e3a25857cfad2878dab0f6d9ef", func := "example.com/dotwise/dotwise/zzlaws_internal_causal_b1.FnAbsorbIdempotentAndLocal", spec := "fnAbsorbIdempotentAndLocal", apart := false }
def FnAbsorbIdempotentAndLocalSaid : Prop := fnAbsorbIdempotentAndLocalRow.holds Try.pinned (OpenSpec.ofChange fnAbsorbIdempotentAndLocalSpec)

/-- ITS FALSE NEIGHBOUR: 'it returns false'. Refute it at one input. -/
def fnAbsorbIdempotentAndLocalWrong : ChangeSpec := { name := "fnAbsorbIdempotentAndLocal", fn := fun _ => fun
  | [d1, d2, d3, d4, d5, d6] => { results := [.lit (.bool false)], args := [d1, d2, d3, d4, d5, d6] }
  | _ => none }
def FnAbsorbIdempotentAndLocalWrongFalsely : Prop := fnAbsorbIdempotentAndLocalRow.holds Try.pinned (OpenSpec.ofChange fnAbsorbIdempotentAndLocalWrong)

end Rows
end Go.Proofs.Qxb6600760a
