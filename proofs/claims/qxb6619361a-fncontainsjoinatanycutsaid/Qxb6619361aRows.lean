/-
  No cell of these rows narrows 'for every input' (looked for: loops, veiled, ifaces, maps, wideKeys, modest, calm, conditions, laid).
  DERIVED. THE GIVEN ROWS OF THIS SEAT. 1 by the template 'for every input the law returns true; each argument reads behind the call as it read before'; 0 by the template 'total and deterministic' (their statements: Qxb6619361aTotals.lean).
  GIVEN WITH THE SEED: the statements are not yours to turn. If you find one false, say at which input.
  Laid BY PROGRAM, IN A SANDBOX (cutbox-rows.mjs): the forced cells as the released guide's own fill.sh prints them over the translation b8f0731f9cb452c9… (all of the seat's roots in one cut). By AI agents, Wed Nov 11 2026. No macro, syntax, notation, axiom, sorry.
-/
import Derived.Test.Qxb6619361aChecked
import GoSem.Claim
import GoSem.ClaimJoined
import GoSem.ClaimMapViews
import Derived.JoinedTies
import Derived.KernelRfl
namespace Go.Proofs.Qxb6619361a
/- THE CELL 'sum', in the pinned program and in every row, IS THE sha256 OF THE DUMP (.gsa) THAT Qxb6619361aProg.lean LOADS. Nothing in Lean hashes anything: it is a label: what it is worth is what the hold of that sum in a sandbox is worth. -/
noncomputable def Try.pinned : Pinned := { name := "qxb6619361a", sum := "b8f0731f9cb452c9e01afb736192dc961439670ffa5bf204e5948db8be5a65bf", checked := Try.checked }
namespace Rows
def none {H : Type} : Left H := { results := [], args := [] }

/-- 'zzlaws_internal_testprovider_b1.FnContainsJoinAtAnyCut': WHATEVER THE INPUT: true; the input reads as it did. -/
def fnContainsJoinAtAnyCutSpec : ChangeSpec := { name := "fnContainsJoinAtAnyCut", fn := fun _ => fun
  | [d1, d2, d3] => { results := [.lit (.bool true)], args := [d1, d2, d3] }
  | _ => none }
def fnContainsJoinAtAnyCutRow : OpenClaim := { program := "qxb6619361a", sum := "b8f0731f9cb452c9e01afb736192dc961439670ffa5bf204e5948db8be5a65bf", func := "example.com/grantkeeper/grantkeeper/zzlaws_internal_testprovider_b1.FnContainsJoinAtAnyCut", spec := "fnContainsJoinAtAnyCut", apart := false }
def FnContainsJoinAtAnyCutSaid : Prop := fnContainsJoinAtAnyCutRow.holds Try.pinned (OpenSpec.ofChange fnContainsJoinAtAnyCutSpec)

/-- ITS FALSE NEIGHBOUR: 'it returns false'. Refute it at one input. -/
def fnContainsJoinAtAnyCutWrong : ChangeSpec := { name := "fnContainsJoinAtAnyCut", fn := fun _ => fun
  | [d1, d2, d3] => { results := [.lit (.bool false)], args := [d1, d2, d3] }
  | _ => none }
def FnContainsJoinAtAnyCutWrongFalsely : Prop := fnContainsJoinAtAnyCutRow.holds Try.pinned (OpenSpec.ofChange fnContainsJoinAtAnyCutWrong)

end Rows
end Go.Proofs.Qxb6619361a
