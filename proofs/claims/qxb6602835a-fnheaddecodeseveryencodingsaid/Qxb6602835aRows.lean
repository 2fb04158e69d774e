/-
  No cell of these rows narrows 'for every input' (looked for: loops, veiled, ifaces, maps, wideKeys, modest, calm, conditions, laid).
  DERIVED. THE GIVEN ROWS OF THIS SEAT. 4 by the template 'for every input the law returns true; each argument reads behind the call as it read before'; 0 by the template 'total and deterministic' (their statements: Qxb6602835aTotals.lean).
  GIVEN WITH THE SEED: the statements are not yours to turn. If you find one false, say at which input.
  Laid BY PROGRAM, IN A SANDBOX (cutbox-rows.mjs): the forced cells as the released guide's own fill.sh prints them over the translation 4419b9a8c592a94b… (all of the seat's roots in one cut). By AI agents, Wed Nov 11 2026. No macro, syntax, notation, axiom, sorry.
-/
import Derived.Test.Qxb6602835aChecked
import GoSem.Claim
import GoSem.ClaimJoined
import GoSem.ClaimMapViews
import Derived.JoinedTies
import Derived.KernelRfl
namespace Go.Proofs.Qxb6602835a
/- THE CELL 'sum', in the pinned program and in every row, IS THE sha256 OF THE DUMP (.gsa) THAT Qxb6602835aProg.lean LOADS. Nothing in Lean hashes anything: it is a label: what it is worth is what the hold of that sum in a sandbox is worth. -/
noncomputable def Try.pinned : Pinned := { name := "qxb6602835a", sum := "4419b9a8c592a94befbcc3f91721cae1d7c8577894cddfda4e80b881ca44e66f", checked := Try.checked }
namespace Rows
def none {H : Type} : Left H := { results := [], args := [] }

/-- 'zzlaws_root_b1.FnHeadDecodesEveryEncoding': WHATEVER THE INPUT: true; the input reads as it did. -/
def fnHeadDecodesEveryEncodingSpec : ChangeSpec := { name := "fnHeadDecodesEveryEncoding", fn := fun _ => fun
  | [d1, d2, d3, d4] => { results := [.lit (.bool true)], args := [d1, d2, d3, d4] }
  | _ => none }
def fnHeadDecodesEveryEncodingRow : OpenClaim := { program := "qxb6602835a", sum := "4419b9a8c592a94befbcc3f91721cae1d7c8577894cddfda4e80b881ca44e66f", func := "example.com/tael/tael/zzlaws_root_b1.FnHeadDecodesEveryEncoding", spec := "fnHeadDecodesEveryEncoding", apart := false }
def FnHeadDecodesEveryEncodingSaid : Prop := fnHeadDecodesEveryEncodingRow.holds Try.pinned (OpenSpec.ofChange fnHeadDecodesEveryEncodingSpec)

/-- ITS FALSE NEIGHBOUR: 'it returns false'. Refute it at one input. -/
def fnHeadDecodesEveryEncodingWrong : ChangeSpec := { name := "fnHeadDecodesEveryEncoding", fn := fun _ => fun
  | [d1, d2, d3, d4] => { results := [.lit (.bool false)], args := [d1, d2, d3, d4] }
  | _ => none }
def FnHeadDecodesEveryEncodingWrongFalsely : Prop := fnHeadDecodesEveryEncodingRow.holds Try.pinned (OpenSpec.ofChange fnHeadDecodesEveryEncodingWrong)

/-- 'zzlaws_root_b1.FnLowerASCIIMatchesAlphabet': WHATEVER THE INPUT: true; the input reads as it did. -/
def fnLowerASCIIMatchesAlphabetSpec : ChangeSpec := { name := "fnLowerASCIIMatchesAlphabet", fn := fun _ => fun
  | [d] => { results := [.lit (.bool true)], args := [d] }
  | _ => none }
def fnLowerASCIIMatchesAlphabetRow : OpenClaim := { program := "qxb6602835a", sum := "4419b9a8c592a94befbcc3f91721cae1d7c8577894cddfda4e80b881ca44e66f", func := "example.com/tael/tael/zzlaws_root_b1.FnLowerASCIIMatchesAlphabet", spec := "fnLowerASCIIMatchesAlphabet", apart := false }
def FnLowerASCIIMatchesAlphabetSaid : Prop := fnLowerASCIIMatchesAlphabetRow.holds Try.pinned (OpenSpec.ofChange fnLowerASCIIMatchesAlphabetSpec)

/-- ITS FALSE NEIGHBOUR: 'it returns false'. Refute it at one input. -/
def fnLowerASCIIMatchesAlphabetWrong : ChangeSpec := { name := "fnLowerASCIIMatchesAlphabet", fn := fun _ => fun
  | [d] => { results := [.lit (.bool false)], args := [d] }
  | _ => none }
def FnLowerASCIIMatchesAlphabetWrongFalsely : Prop := fnLowerASCIIMatchesAlphabetRow.holds Try.pinned (OpenSpec.ofChange fnLowerASCIIMatchesAlphabetWrong)

/-- 'zzlaws_root_b1.FnLowerASCIIIdempotentNeverCapital': WHATEVER THE INPUT: true; the input reads as it did. -/
def fnLowerASCIIIdempotentNeverCapitalSpec : ChangeSpec := { name := "fnLowerASCIIIdempotentNeverCapital", fn := fun _ => fun
  | [d] => { results := [.lit (.bool true)], args := [d] }
  | _ => none }
def fnLowerASCIIIdempotentNeverCapitalRow : OpenClaim := { program := "qxb6602835a", sum := "4419b9a8c592a94befbcc3f91721cae1d7c8577894cddfda4e80b881ca44e66f", func := "example.com/tael/tael/zzlaws_root_b1.FnLowerASCIIIdempotentNeverCapital", spec := "fnLowerASCIIIdempotentNeverCapital", apart := false }
def FnLowerASCIIIdempotentNeverCapitalSaid : Prop := fnLowerASCIIIdempotentNeverCapitalRow.holds Try.pinned (OpenSpec.ofChange fnLowerASCIIIdempotentNeverCapitalSpec)

/-- ITS FALSE NEIGHBOUR: 'it returns false'. Refute it at one input. -/
def fnLowerASCIIIdempotentNeverCapitalWrong : ChangeSpec := { name := "fnLowerASCIIIdempotentNeverCapital", fn := fun _ => fun
  | [d] => { results := [.lit (.bool false)], args := [d] }
  | _ => none }
def FnLowerASCIIIdempotentNeverCapitalWrongFalsely : Prop := fnLowerASCIIIdempotentNeverCapitalRow.holds Try.pinned (OpenSpec.ofChange fnLowerASCIIIdempotentNeverCapitalWrong)

/-- 'zzlaws_root_b1.FnLowerASCIIFoldsExactlyCasePairs': WHATEVER THE INPUT: true; the input reads as it did. -/
def fnLowerASCIIFoldsExactlyCasePairsSpec : ChangeSpec := { name := "fnLowerASCIIFoldsExactlyCasePairs", fn := fun _ => fun
  | [d1, d2] => { results := [.lit (.bool true)], args := [d1, d2] }
  | _ => none }
def fnLowerASCIIFoldsExactlyCasePairsRow : OpenClaim := { program := "qxb6602835a", sum := "4419b9a8c592a94befbcc3f91721cae1d7c8577894cddfda4e80b881ca44e66f", func := "example.com/tael/tael/zzlaws_root_b1.FnLowerASCIIFoldsExactlyCasePairs", spec := "fnLowerASCIIFoldsExactlyCasePairs", apart := false }
def FnLowerASCIIFoldsExactlyCasePairsSaid : Prop := fnLowerASCIIFoldsExactlyCasePairsRow.holds Try.pinned (OpenSpec.ofChange fnLowerASCIIFoldsExactlyCasePairsSpec)

/-- ITS FALSE NEIGHBOUR: 'it returns false'. Refute it at one input. -/
def fnLowerASCIIFoldsExactlyCasePairsWrong : ChangeSpec := { name := "fnLowerASCIIFoldsExactlyCasePairs", fn := fun _ => fun
  | [d1, d2] => { results := [.lit (.bool false)], args := [d1, d2] }
  | _ => none }
def FnLowerASCIIFoldsExactlyCasePairsWrongFalsely : Prop := fnLowerASCIIFoldsExactlyCasePairsRow.holds Try.pinned (OpenSpec.ofChange fnLowerASCIIFoldsExactlyCasePairsWrong)

end Rows
end Go.Proofs.Qxb6602835a
