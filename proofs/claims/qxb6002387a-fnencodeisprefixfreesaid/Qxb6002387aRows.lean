/-
  No cell of these rows narrows 'for every input' (looked for: loops, veiled, ifaces, maps, wideKeys, modest, calm, conditions, laid).
  DERIVED. THE GIVEN ROWS OF THIS SEAT. 4 by the template 'for every input the law returns true; each argument reads behind the call as it read before'; 0 by the template 'total and deterministic' (their statements: Qxb6002387aTotals.lean).
  GIVEN WITH THE SEED: the statements are not yours to turn. If you find one false, say at which input.
  Laid BY PROGRAM, IN A SANDBOX (cutbox-rows.mjs): the forced cells as the released guide's own fill.sh prints them over the translation c46f5ad16115641a… (all of the seat's roots in one cut). By AI agents, Wed Nov 11 2026. No macro, syntax, notation, axiom, sorry.
-/
import Derived.Test.Qxb6002387aChecked
import GoSem.Claim
import GoSem.ClaimJoined
import GoSem.ClaimMapViews
import Derived.JoinedTies
import Derived.KernelRfl
namespace Go.Proofs.Qxb6002387a
/- THE CELL 'sum', in the pinned program and in every row, IS THE sha256 OF THE DUMP (.gsa) THAT Qxb6002387aProg.lean LOADS. Nothing in Lean hashes anything: it is a label: what it is worth is what the hold of that sum in a sandbox is worth. -/
noncomputable def Try.pinned : Pinned := { name := "qxb6002387a", sum := "c46f5ad16115641a49694e6b3eb0ec03f91dbf393e3357f2a151f2539fc424dd", checked := Try.checked }
namespace Rows
def none {H : Type} : Left H := { results := [], args := [] }

/-- 'zzlaws_internal_der_f1.FnEncodeJoinsItsContents': WHATEVER THE INPUT: true; the input reads as it did. -/
def fnEncodeJoinsItsContentsSpec : ChangeSpec := { name := "fnEncodeJoinsItsContents", fn := fun _ => fun
  | [d1, d2, d3, d4, d5, d6] => { results := [.lit (.bool true)], args := [d1, d2, d3, d4, d5, d6] }
  | _ => none }
def fnEncodeJoinsItsContentsRow : OpenClaim := { program := "qxb6002387a", sum := "c46f5ad16115641a49694e6b3eb0ec03f91dbf393e3357f2a151f2539fc424dd", func := "example.com/keyshape/keyshape/zzlaws_internal_der_f1.FnEncodeJoinsItsContents", spec := "fnEncodeJoinsItsContents", apart := false }
def FnEncodeJoinsItsContentsSaid : Prop := fnEncodeJoinsItsContentsRow.holds Try.pinned (OpenSpec.ofChange fnEncodeJoinsItsContentsSpec)

/-- ITS FALSE NEIGHBOUR: 'it returns false'. Refute it at one input. -/
def fnEncodeJoinsItsContentsWrong : ChangeSpec := { name := "fnEncodeJoinsItsContents", fn := fun _ => fun
  | [d1, d2, d3, d4, d5, d6] => { results := [.lit (.bool false)], args := [d1, d2, d3, d4, d5, d6] }
  | _ => none }
def FnEncodeJoinsItsContentsWrongFalsely : Prop := fnEncodeJoinsItsContentsRow.holds Try.pinned (OpenSpec.ofChange fnEncodeJoinsItsContentsWrong)

/-- 'zzlaws_internal_der_f1.FnEncodeIsPrefixFree': WHATEVER THE INPUT: true; the input reads as it did. -/
def fnEncodeIsPrefixFreeSpec : ChangeSpec := { name := "fnEncodeIsPrefixFree", fn := fun _ => fun
  | [d1, d2, d3, d4, d5, d6, d7, d8] => { results := [.lit (.bool true)], args := [d1, d2, d3, d4, d5, d6, d7, d8] }
  | _ => none }
def fnEncodeIsPrefixFreeRow : OpenClaim := { program := "qxb6002387a", sum := "c46f5ad16115641a49694e6b3eb0ec03f91dbf393e3357f2a151f2539fc424dd", func := "example.com/keyshape/keyshape/zzlaws_internal_der_f1.FnEncodeIsPrefixFree", spec := "fnEncodeIsPrefixFree", apart := false }
def FnEncodeIsPrefixFreeSaid : Prop := fnEncodeIsPrefixFreeRow.holds Try.pinned (OpenSpec.ofChange fnEncodeIsPrefixFreeSpec)

/-- ITS FALSE NEIGHBOUR: 'it returns false'. Refute it at one input. -/
def fnEncodeIsPrefixFreeWrong : ChangeSpec := { name := "fnEncodeIsPrefixFree", fn := fun _ => fun
  | [d1, d2, d3, d4, d5, d6, d7, d8] => { results := [.lit (.bool false)], args := [d1, d2, d3, d4, d5, d6, d7, d8] }
  | _ => none }
def FnEncodeIsPrefixFreeWrongFalsely : Prop := fnEncodeIsPrefixFreeRow.holds Try.pinned (OpenSpec.ofChange fnEncodeIsPrefixFreeWrong)

/-- 'zzlaws_root_f1.FnSmallArcGrowsByOneBase128Digit': WHATEVER THE INPUT: true; the input reads as it did. -/
def fnSmallArcGrowsByOneBase128DigitSpec : ChangeSpec := { name := "fnSmallArcGrowsByOneBase128Digit", fn := fun _ => fun
  | [d1, d2] => { results := [.lit (.bool true)], args := [d1, d2] }
  | _ => none }
def fnSmallArcGrowsByOneBase128DigitRow : OpenClaim := { program := "qxb6002387a", sum := "c46f5ad16115641a49694e6b3eb0ec03f91dbf393e3357f2a151f2539fc424dd", func := "example.com/keyshape/keyshape/zzlaws_root_f1.FnSmallArcGrowsByOneBase128Digit", spec := "fnSmallArcGrowsByOneBase128Digit", apart := false }
def FnSmallArcGrowsByOneBase128DigitSaid : Prop := fnSmallArcGrowsByOneBase128DigitRow.holds Try.pinned (OpenSpec.ofChange fnSmallArcGrowsByOneBase128DigitSpec)

/-- ITS FALSE NEIGHBOUR: 'it returns false'. Refute it at one input. -/
def fnSmallArcGrowsByOneBase128DigitWrong : ChangeSpec := { name := "fnSmallArcGrowsByOneBase128Digit", fn := fun _ => fun
  | [d1, d2] => { results := [.lit (.bool false)], args := [d1, d2] }
  | _ => none }
def FnSmallArcGrowsByOneBase128DigitWrongFalsely : Prop := fnSmallArcGrowsByOneBase128DigitRow.holds Try.pinned (OpenSpec.ofChange fnSmallArcGrowsByOneBase128DigitWrong)

/-- 'zzlaws_root_f1.FnFieldOctetsIsTheLeastCover': WHATEVER THE INPUT: true; the input reads as it did. -/
def fnFieldOctetsIsTheLeastCoverSpec : ChangeSpec := { name := "fnFieldOctetsIsTheLeastCover", fn := fun _ => fun
  | [d] => { results := [.lit (.bool true)], args := [d] }
  | _ => none }
def fnFieldOctetsIsTheLeastCoverRow : OpenClaim := { program := "qxb6002387a", sum := "c46f5ad16115641a49694e6b3eb0ec03f91dbf393e3357f2a151f2539fc424dd", func := "example.com/keyshape/keyshape/zzlaws_root_f1.FnFieldOctetsIsTheLeastCover", spec := "fnFieldOctetsIsTheLeastCover", apart := false }
def FnFieldOctetsIsTheLeastCoverSaid : Prop := fnFieldOctetsIsTheLeastCoverRow.holds Try.pinned (OpenSpec.ofChange fnFieldOctetsIsTheLeastCoverSpec)

/-- ITS FALSE NEIGHBOUR: 'it returns false'. Refute it at one input. -/
def fnFieldOctetsIsTheLeastCoverWrong : ChangeSpec := { name := "fnFieldOctetsIsTheLeastCover", fn := fun _ => fun
  | [d] => { results := [.lit (.bool false)], args := [d] }
  | _ => none }
def FnFieldOctetsIsTheLeastCoverWrongFalsely : Prop := fnFieldOctetsIsTheLeastCoverRow.holds Try.pinned (OpenSpec.ofChange fnFieldOctetsIsTheLeastCoverWrong)

end Rows
end Go.Proofs.Qxb6002387a
