/-
  No cell of these rows narrows 'for every input' (looked for: loops, veiled, ifaces, maps, wideKeys, modest, calm, conditions, laid).
  DERIVED. THE GIVEN ROWS OF THIS SEAT. 4 by the template 'for every input the law returns true; each argument reads behind the call as it read before'; 0 by the template 'total and deterministic' (their statements: Qxb6603245aTotals.lean).
  GIVEN WITH THE SEED: the statements are not yours to turn. If you find one false, say at which input.
  Laid BY PROGRAM, IN A SANDBOX (cutbox-rows.mjs): the forced cells as the released guide's own fill.sh prints them over the translation d1b86f60865b525a… (all of the seat's roots in one cut). By AI agents, Wed Nov 11 2026. No macro, syntax, notation, axiom, sorry.
-/
import Derived.Test.Qxb6603245aChecked
import GoSem.Claim
import GoSem.ClaimJoined
import GoSem.ClaimMapViews
import Derived.JoinedTies
import Derived.KernelRfl
namespace Go.Proofs.Qxb6603245a
/- THE CELL 'sum', in the pinned program and in every row, IS THE sha256 OF THE DUMP (.gsa) THAT Qxb6603245aProg.lean LOADS. Nothing in Lean hashes anything: it is a label: what it is worth is what the hold of that sum in a sandbox is worth. -/
noncomputable def Try.pinned : Pinned := { name := "qxb6603245a", sum := "d1b86f60865b525ac6b485bedb2ba9284675a3a62fa42051b97bf646a4433e87", checked := Try.checked }
namespace Rows
def none {H : Type} : Left H := { results := [], args := [] }

/-- 'zzlaws_gtpv1_b1.FnIMSIStringMatchesNibbleModel': WHATEVER THE INPUT: true; the input reads as it did. -/
def fnIMSIStringMatchesNibbleModelSpec : ChangeSpec := { name := "fnIMSIStringMatchesNibbleModel", fn := fun _ => fun
  | [d] => { results := [.lit (.bool true)], args := [d] }
  | _ => none }
def fnIMSIStringMatchesNibbleModelRow : OpenClaim := { program := "qxb6603245a", sum := "d1b86f60865b525ac6b485bedb2ba9284675a3a62fa42051b97bf646a4433e87", func := "example.com/tunnelwright/tunnelwright/zzlaws_gtpv1_b1.FnIMSIStringMatchesNibbleModel", spec := "fnIMSIStringMatchesNibbleModel", apart := false }
def FnIMSIStringMatchesNibbleModelSaid : Prop := fnIMSIStringMatchesNibbleModelRow.holds Try.pinned (OpenSpec.ofChange fnIMSIStringMatchesNibbleModelSpec)

/-- ITS FALSE NEIGHBOUR: 'it returns false'. Refute it at one input. -/
def fnIMSIStringMatchesNibbleModelWrong : ChangeSpec := { name := "fnIMSIStringMatchesNibbleModel", fn := fun _ => fun
  | [d] => { results := [.lit (.bool false)], args := [d] }
  | _ => none }
def FnIMSIStringMatchesNibbleModelWrongFalsely : Prop := fnIMSIStringMatchesNibbleModelRow.holds Try.pinned (OpenSpec.ofChange fnIMSIStringMatchesNibbleModelWrong)

/-- 'zzlaws_gtpv1_b1.FnIMSIStringInvertsTBCDPacking': WHATEVER THE INPUT: true; the input reads as it did. -/
def fnIMSIStringInvertsTBCDPackingSpec : ChangeSpec := { name := "fnIMSIStringInvertsTBCDPacking", fn := fun _ => fun
  | [d] => { results := [.lit (.bool true)], args := [d] }
  | _ => none }
def fnIMSIStringInvertsTBCDPackingRow : OpenClaim := { program := "qxb6603245a", sum := "d1b86f60865b525ac6b485bedb2ba9284675a3a62fa42051b97bf646a4433e87", func := "example.com/tunnelwright/tunnelwright/zzlaws_gtpv1_b1.FnIMSIStringInvertsTBCDPacking", spec := "fnIMSIStringInvertsTBCDPacking", apart := false }
def FnIMSIStringInvertsTBCDPackingSaid : Prop := fnIMSIStringInvertsTBCDPackingRow.holds Try.pinned (OpenSpec.ofChange fnIMSIStringInvertsTBCDPackingSpec)

/-- ITS FALSE NEIGHBOUR: 'it returns false'. Refute it at one input. -/
def fnIMSIStringInvertsTBCDPackingWrong : ChangeSpec := { name := "fnIMSIStringInvertsTBCDPacking", fn := fun _ => fun
  | [d] => { results := [.lit (.bool false)], args := [d] }
  | _ => none }
def FnIMSIStringInvertsTBCDPackingWrongFalsely : Prop := fnIMSIStringInvertsTBCDPackingRow.holds Try.pinned (OpenSpec.ofChange fnIMSIStringInvertsTBCDPackingWrong)

/-- 'zzlaws_gtpv1_b1.FnIMSIStringRepacksToCanonical': WHATEVER THE INPUT: true; the input reads as it did. -/
def fnIMSIStringRepacksToCanonicalSpec : ChangeSpec := { name := "fnIMSIStringRepacksToCanonical", fn := fun _ => fun
  | [d] => { results := [.lit (.bool true)], args := [d] }
  | _ => none }
def fnIMSIStringRepacksToCanonicalRow : OpenClaim := { program := "qxb6603245a", sum := "d1b86f60865b525ac6b485bedb2ba9284675a3a62fa42051b97bf646a4433e87", func := "example.com/tunnelwright/tunnelwright/zzlaws_gtpv1_b1.FnIMSIStringRepacksToCanonical", spec := "fnIMSIStringRepacksToCanonical", apart := false }
def FnIMSIStringRepacksToCanonicalSaid : Prop := fnIMSIStringRepacksToCanonicalRow.holds Try.pinned (OpenSpec.ofChange fnIMSIStringRepacksToCanonicalSpec)

/-- ITS FALSE NEIGHBOUR: 'it returns false'. Refute it at one input. -/
def fnIMSIStringRepacksToCanonicalWrong : ChangeSpec := { name := "fnIMSIStringRepacksToCanonical", fn := fun _ => fun
  | [d] => { results := [.lit (.bool false)], args := [d] }
  | _ => none }
def FnIMSIStringRepacksToCanonicalWrongFalsely : Prop := fnIMSIStringRepacksToCanonicalRow.holds Try.pinned (OpenSpec.ofChange fnIMSIStringRepacksToCanonicalWrong)

/-- 'zzlaws_gtpv1_b1.FnDeleteRequestAppendIEsDecodesBack': WHATEVER THE INPUT: true; the input reads as it did. -/
def fnDeleteRequestAppendIEsDecodesBackSpec : ChangeSpec := { name := "fnDeleteRequestAppendIEsDecodesBack", fn := fun _ => fun
  | [d1, d2] => { results := [.lit (.bool true)], args := [d1, d2] }
  | _ => none }
def fnDeleteRequestAppendIEsDecodesBackRow : OpenClaim := { program := "qxb6603245a", sum := "d1b86f60865b525ac6b485bedb2ba9284675a3a62fa42051b97bf646a4433e87", func := "example.com/tunnelwright/tunnelwright/zzlaws_gtpv1_b1.FnDeleteRequestAppendIEsDecodesBack", spec := "fnDeleteRequestAppendIEsDecodesBack", apart := false }
def FnDeleteRequestAppendIEsDecodesBackSaid : Prop := fnDeleteRequestAppendIEsDecodesBackRow.holds Try.pinned (OpenSpec.ofChange fnDeleteRequestAppendIEsDecodesBackSpec)

/-- ITS FALSE NEIGHBOUR: 'it returns false'. Refute it at one input. -/
def fnDeleteRequestAppendIEsDecodesBackWrong : ChangeSpec := { name := "fnDeleteRequestAppendIEsDecodesBack", fn := fun _ => fun
  | [d1, d2] => { results := [.lit (.bool false)], args := [d1, d2] }
  | _ => none }
def FnDeleteRequestAppendIEsDecodesBackWrongFalsely : Prop := fnDeleteRequestAppendIEsDecodesBackRow.holds Try.pinned (OpenSpec.ofChange fnDeleteRequestAppendIEsDecodesBackWrong)

end Rows
end Go.Proofs.Qxb6603245a
