/-
  No cell of these rows narrows 'for every input' (looked for: loops, veiled, ifaces, maps, wideKeys, modest, calm, conditions, laid).
  DERIVED. THE GIVEN ROWS OF THIS SEAT. 3 by the template 'for every input the law returns true; each argument reads behind the call as it read before'; 0 by the template 'total and deterministic' (their statements: Qxb6001102aTotals.lean).
  GIVEN WITH THE SEED: the statements are not yours to turn. If you find one false, say at which input.
  Laid BY PROGRAM, IN A SANDBOX (cutbox-rows.mjs): the forced cells as the released guide's own fill.sh prints them over the translation 008a5a6893f92065… (all of the seat's roots in one cut). By AI agents, Wed Nov 11 2026. No macro, syntax, notation, axiom, sorry.
-/
import Derived.Test.Qxb6001102aChecked
import GoSem.Claim
import GoSem.ClaimJoined
import GoSem.ClaimMapViews
import Derived.JoinedTies
import Derived.KernelRfl
namespace Go.Proofs.Qxb6001102a
/- THE CELL 'sum', in the pinned program and in every row, IS THE sha256 OF THE DUMP (.gsa) THAT Qxb6001102aProg.lean LOADS. Nothing in Lean hashes anything: it is a label: what it is worth is what the hold of that sum in a sandbox is worth. -/
noncomputable def Try.pinned : Pinned := { name := "qxb6001102a", sum := "008a5a6893f9206594937e7e4f7982d5336d1b3af630589e8177b2a4c3919904", checked := Try.checked }
namespace Rows
def none {H : Type} : Left H := { results := [], args := [] }

/-- 'zzlaws_root_b1.FnAppendStringDecodesBack': WHATEVER THE INPUT: true; the input reads as it did. -/
def fnAppendStringDecodesBackSpec : ChangeSpec := { name := "fnAppendStringDecodesBack", fn := fun _ => fun
  | [d1, d2] => { results := [.lit (.bool true)], args := [d1, d2] }
  | _ => none }
def fnAppendStringDecodesBackRow : OpenClaim := { program := "qxb6001102a", sum := "008a5a6893f9206594937e7e4f7982d5336d1b3af630589e8177b2a4c3919904", func := "example.com/latchkey/latchkey/zzlaws_root_b1.FnAppendStringDecodesBack", spec := "fnAppendStringDecodesBack", apart := false }
def FnAppendStringDecodesBackSaid : Prop := fnAppendStringDecodesBackRow.holds Try.pinned (OpenSpec.ofChange fnAppendStringDecodesBackSpec)

/-- ITS FALSE NEIGHBOUR: 'it returns false'. Refute it at one input. -/
def fnAppendStringDecodesBackWrong : ChangeSpec := { name := "fnAppendStringDecodesBack", fn := fun _ => fun
  | [d1, d2] => { results := [.lit (.bool false)], args := [d1, d2] }
  | _ => none }
def FnAppendStringDecodesBackWrongFalsely : Prop := fnAppendStringDecodesBackRow.holds Try.pinned (OpenSpec.ofChange fnAppendStringDecodesBackWrong)

/-- 'zzlaws_root_b1.FnAppendStringConcatenates': WHATEVER THE INPUT: true; the input reads as it did. -/
def fnAppendStringConcatenatesSpec : ChangeSpec := { name := "fnAppendStringConcatenates", fn := fun _ => fun
  | [d1, d2] => { results := [.lit (.bool true)], args := [d1, d2] }
  | _ => none }
def fnAppendStringConcatenatesRow : OpenClaim := { program := "qxb6001102a", sum := "008a5a6893f9206594937e7e4f7982d5336d1b3af630589e8177b2a4c3919904", func := "example.com/latchkey/latchkey/zzlaws_root_b1.FnAppendStringConcatenates", spec := "fnAppendStringConcatenates", apart := false }
def FnAppendStringConcatenatesSaid : Prop := fnAppendStringConcatenatesRow.holds Try.pinned (OpenSpec.ofChange fnAppendStringConcatenatesSpec)

/-- ITS FALSE NEIGHBOUR: 'it returns false'. Refute it at one input. -/
def fnAppendStringConcatenatesWrong : ChangeSpec := { name := "fnAppendStringConcatenates", fn := fun _ => fun
  | [d1, d2] => { results := [.lit (.bool false)], args := [d1, d2] }
  | _ => none }
def FnAppendStringConcatenatesWrongFalsely : Prop := fnAppendStringConcatenatesRow.holds Try.pinned (OpenSpec.ofChange fnAppendStringConcatenatesWrong)

/-- 'zzlaws_root_b1.FnAppendStringLengthBounds': WHATEVER THE INPUT: true; the input reads as it did. -/
def fnAppendStringLengthBoundsSpec : ChangeSpec := { name := "fnAppendStringLengthBounds", fn := fun _ => fun
  | [d1, d2] => { results := [.lit (.bool true)], args := [d1, d2] }
  | _ => none }
def fnAppendStringLengthBoundsRow : OpenClaim := { program := "qxb6001102a", sum := "008a5a6893f9206594937e7e4f7982d5336d1b3af630589e8177b2a4c3919904", func := "example.com/latchkey/latchkey/zzlaws_root_b1.FnAppendStringLengthBounds", spec := "fnAppendStringLengthBounds", apart := false }
def FnAppendStringLengthBoundsSaid : Prop := fnAppendStringLengthBoundsRow.holds Try.pinned (OpenSpec.ofChange fnAppendStringLengthBoundsSpec)

/-- ITS FALSE NEIGHBOUR: 'it returns false'. Refute it at one input. -/
def fnAppendStringLengthBoundsWrong : ChangeSpec := { name := "fnAppendStringLengthBounds", fn := fun _ => fun
  | [d1, d2] => { results := [.lit (.bool false)], args := [d1, d2] }
  | _ => none }
def FnAppendStringLengthBoundsWrongFalsely : Prop := fnAppendStringLengthBoundsRow.holds Try.pinned (OpenSpec.ofChange fnAppendStringLengthBoundsWrong)

end Rows
end Go.Proofs.Qxb6001102a
