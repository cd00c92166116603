/-
  No cell of these rows narrows 'for every input' (looked for: loops, veiled, ifaces, maps, wideKeys, modest, calm, conditions, laid).
  DERIVED. THE GIVEN ROWS OF THIS SEAT. 3 by the template 'for every input the law returns true; each argument reads behind the call as it read before'; 0 by the template 'total and deterministic' (their statements: Qxb6619337aTotals.lean).
  GIVEN WITH THE SEED: the statements are not yours to turn. If you find one false, say at which input.
  Laid BY PROGRAM, IN A SANDBOX (cutbox-rows.mjs): the forced cells as the released guide's own fill.sh prints them over the translation 3442076c7d109eae… (all of the seat's roots in one cut). By AI agents, Wed Nov 11 2026. No macro, syntax, notation, axiom, sorry.
-/
import Derived.Test.Qxb6619337aChecked
import GoSem.Claim
import GoSem.ClaimJoined
import GoSem.ClaimMapViews
import Derived.JoinedTies
import Derived.KernelRfl
namespace Go.Proofs.Qxb6619337a
/- THE CELL 'sum', in the pinned program and in every row, IS THE sha256 OF THE DUMP (.gsa) THAT Qxb6619337aProg.lean LOADS. Nothing in Lean hashes anything: it is a label: what it is worth is what the hold of that sum in a sandbox is worth. -/
noncomputable def Try.pinned : Pinned := { name := "qxb6619337a", sum := "3442076c7d109eae9c4b23a724abb2aa7b2eda6068fc872d38d6f80e9f626277", checked := Try.checked }
namespace Rows
def none {H : Type} : Left H := { results := [], args := [] }

/-- 'zzlaws_rbop_b1.FnIntegerNextIsSuccessor': WHATEVER THE INPUT: true; the input reads as it did. -/
def fnIntegerNextIsSuccessorSpec : ChangeSpec := { name := "fnIntegerNextIsSuccessor", fn := fun _ => fun
  | [d] => { results := [.lit (.bool true)], args := [d] }
  | _ => none }
def fnIntegerNextIsSuccessorRow : OpenClaim := { program := "qxb6619337a", sum := "3442076c7d109eae9c4b23a724abb2aa7b2eda6068fc872d38d6f80e9f626277", func := "example.com/hillsboro/hillsboro/zzlaws_rbop_b1.FnIntegerNextIsSuccessor", spec := "fnIntegerNextIsSuccessor", apart := false }
def FnIntegerNextIsSuccessorSaid : Prop := fnIntegerNextIsSuccessorRow.holds Try.pinned (OpenSpec.ofChange fnIntegerNextIsSuccessorSpec)

/-- ITS FALSE NEIGHBOUR: 'it returns false'. Refute it at one input. -/
def fnIntegerNextIsSuccessorWrong : ChangeSpec := { name := "fnIntegerNextIsSuccessor", fn := fun _ => fun
  | [d] => { results := [.lit (.bool false)], args := [d] }
  | _ => none }
def FnIntegerNextIsSuccessorWrongFalsely : Prop := fnIntegerNextIsSuccessorRow.holds Try.pinned (OpenSpec.ofChange fnIntegerNextIsSuccessorWrong)

/-- 'zzlaws_rbop_b1.FnIntegerNextAtACut': WHATEVER THE INPUT: true; the input reads as it did. -/
def fnIntegerNextAtACutSpec : ChangeSpec := { name := "fnIntegerNextAtACut", fn := fun _ => fun
  | [d1, d2] => { results := [.lit (.bool true)], args := [d1, d2] }
  | _ => none }
def fnIntegerNextAtACutRow : OpenClaim := { program := "qxb6619337a", sum := "3442076c7d109eae9c4b23a724abb2aa7b2eda6068fc872d38d6f80e9f626277", func := "example.com/hillsboro/hillsboro/zzlaws_rbop_b1.FnIntegerNextAtACut", spec := "fnIntegerNextAtACut", apart := false }
def FnIntegerNextAtACutSaid : Prop := fnIntegerNextAtACutRow.holds Try.pinned (OpenSpec.ofChange fnIntegerNextAtACutSpec)

/-- ITS FALSE NEIGHBOUR: 'it returns false'. Refute it at one input. -/
def fnIntegerNextAtACutWrong : ChangeSpec := { name := "fnIntegerNextAtACut", fn := fun _ => fun
  | [d1, d2] => { results := [.lit (.bool false)], args := [d1, d2] }
  | _ => none }
def FnIntegerNextAtACutWrongFalsely : Prop := fnIntegerNextAtACutRow.holds Try.pinned (OpenSpec.ofChange fnIntegerNextAtACutWrong)

/-- 'zzlaws_rbop_b1.FnPointerStringDecodesAndJoins': WHATEVER THE INPUT: true; the input reads as it did. -/
def fnPointerStringDecodesAndJoinsSpec : ChangeSpec := { name := "fnPointerStringDecodesAndJoins", fn := fun _ => fun
  | [d1, d2] => { results := [.lit (.bool true)], args := [d1, d2] }
  | _ => none }
def fnPointerStringDecodesAndJoinsRow : OpenClaim := { program := "qxb6619337a", sum := "3442076c7d109eae9c4b23a724abb2aa7b2eda6068fc872d38d6f80e9f626277", func := "example.com/hillsboro/hillsboro/zzlaws_rbop_b1.FnPointerStringDecodesAndJoins", spec := "fnPointerStringDecodesAndJoins", inPlace := ["internal/bytealg.IndexByteString"], apart := false }
def FnPointerStringDecodesAndJoinsSaid : Prop := fnPointerStringDecodesAndJoinsRow.holds Try.pinned (OpenSpec.ofChange fnPointerStringDecodesAndJoinsSpec)

/-- ITS FALSE NEIGHBOUR: 'it returns false'. Refute it at one input. -/
def fnPointerStringDecodesAndJoinsWrong : ChangeSpec := { name := "fnPointerStringDecodesAndJoins", fn := fun _ => fun
  | [d1, d2] => { results := [.lit (.bool false)], args := [d1, d2] }
  | _ => none }
def FnPointerStringDecodesAndJoinsWrongFalsely : Prop := fnPointerStringDecodesAndJoinsRow.holds Try.pinned (OpenSpec.ofChange fnPointerStringDecodesAndJoinsWrong)

end Rows
end Go.Proofs.Qxb6619337a
