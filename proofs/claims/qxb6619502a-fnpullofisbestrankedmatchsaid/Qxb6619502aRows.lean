/-
  NARROWER THAN 'FOR EVERY INPUT', by the rows' own cells (each row's printed sentence says how): FnOperationPutBackUndoesItsMoves: maps.
  DERIVED. THE GIVEN ROWS OF THIS SEAT. 3 by the template 'for every input the law returns true; each argument reads behind the call as it read before'; 0 by the template 'total and deterministic' (their statements: Qxb6619502aTotals.lean).
  GIVEN WITH THE SEED: the statements are not yours to turn. If you find one false, say at which input.
  Laid BY PROGRAM, IN A SANDBOX (cutbox-rows.mjs): the forced cells as the released guide's own fill.sh prints them over the translation 35b9e73597f8abee… (all of the seat's roots in one cut). By AI agents, Wed Nov 11 2026. No macro, syntax, notation, axiom, sorry.
-/
import Derived.Test.Qxb6619502aChecked
import GoSem.Claim
import GoSem.ClaimJoined
import GoSem.ClaimMapViews
import Derived.JoinedTies
import Derived.KernelRfl
namespace Go.Proofs.Qxb6619502a
/- THE CELL 'sum', in the pinned program and in every row, IS THE sha256 OF THE DUMP (.gsa) THAT Qxb6619502aProg.lean LOADS. Nothing in Lean hashes anything: it is a label: what it is worth is what the hold of that sum in a sandbox is worth. -/
noncomputable def Try.pinned : Pinned := { name := "qxb6619502a", sum := "35b9e73597f8abeecc5a1121068400b2060e53f88beb43db18ca89200e3a7f23", checked := Try.checked }
namespace Rows
def none {H : Type} : Left H := { results := [], args := [] }

/-- 'zzlaws_stack_b1.FnPullOfIsBestRankedMatch': WHATEVER THE INPUT: true; the input reads as it did. -/
def fnPullOfIsBestRankedMatchSpec : ChangeSpec := { name := "fnPullOfIsBestRankedMatch", fn := fun _ => fun
  | [d1, d2, d3, d4, d5, d6, d7] => { results := [.lit (.bool true)], args := [d1, d2, d3, d4, d5, d6, d7] }
  | _ => none }
def fnPullOfIsBestRankedMatchRow : OpenClaim := { program := "qxb6619502a", sum := "35b9e73597f8abeecc5a1121068400b2060e53f88beb43db18ca89200e3a7f23", func := "example.com/cairn/cairn/zzlaws_stack_b1.FnPullOfIsBestRankedMatch", spec := "fnPullOfIsBestRankedMatch", apart := false }
def FnPullOfIsBestRankedMatchSaid : Prop := fnPullOfIsBestRankedMatchRow.holds Try.pinned (OpenSpec.ofChange fnPullOfIsBestRankedMatchSpec)

/-- ITS FALSE NEIGHBOUR: 'it returns false'. Refute it at one input. -/
def fnPullOfIsBestRankedMatchWrong : ChangeSpec := { name := "fnPullOfIsBestRankedMatch", fn := fun _ => fun
  | [d1, d2, d3, d4, d5, d6, d7] => { results := [.lit (.bool false)], args := [d1, d2, d3, d4, d5, d6, d7] }
  | _ => none }
def FnPullOfIsBestRankedMatchWrongFalsely : Prop := fnPullOfIsBestRankedMatchRow.holds Try.pinned (OpenSpec.ofChange fnPullOfIsBestRankedMatchWrong)

/-- 'zzlaws_stack_b1.FnPullOfIgnoresPullsOfOtherHeads': WHATEVER THE INPUT: true; the input reads as it did. -/
def fnPullOfIgnoresPullsOfOtherHeadsSpec : ChangeSpec := { name := "fnPullOfIgnoresPullsOfOtherHeads", fn := fun _ => fun
  | [d1, d2, d3, d4, d5, d6, d7, d8, d9] => { results := [.lit (.bool true)], args := [d1, d2, d3, d4, d5, d6, d7, d8, d9] }
  | _ => none }
def fnPullOfIgnoresPullsOfOtherHeadsRow : OpenClaim := { program := "qxb6619502a", sum := "35b9e73597f8abeecc5a1121068400b2060e53f88beb43db18ca89200e3a7f23", func := "example.com/cairn/cairn/zzlaws_stack_b1.FnPullOfIgnoresPullsOfOtherHeads", spec := "fnPullOfIgnoresPullsOfOtherHeads", apart := false }
def FnPullOfIgnoresPullsOfOtherHeadsSaid : Prop := fnPullOfIgnoresPullsOfOtherHeadsRow.holds Try.pinned (OpenSpec.ofChange fnPullOfIgnoresPullsOfOtherHeadsSpec)

/-- ITS FALSE NEIGHBOUR: 'it returns false'. Refute it at one input. -/
def fnPullOfIgnoresPullsOfOtherHeadsWrong : ChangeSpec := { name := "fnPullOfIgnoresPullsOfOtherHeads", fn := fun _ => fun
  | [d1, d2, d3, d4, d5, d6, d7, d8, d9] => { results := [.lit (.bool false)], args := [d1, d2, d3, d4, d5, d6, d7, d8, d9] }
  | _ => none }
def FnPullOfIgnoresPullsOfOtherHeadsWrongFalsely : Prop := fnPullOfIgnoresPullsOfOtherHeadsRow.holds Try.pinned (OpenSpec.ofChange fnPullOfIgnoresPullsOfOtherHeadsWrong)

/-- 'zzlaws_stack_b1.FnOperationPutBackUndoesItsMoves': WHATEVER THE INPUT: true; the input reads as it did. -/
def fnOperationPutBackUndoesItsMovesSpec : ChangeSpec := { name := "fnOperationPutBackUndoesItsMoves", fn := fun _ => fun
  | [d1, d2, d3, d4, d5, d6] => { results := [.lit (.bool true)], args := [d1, d2, d3, d4, d5, d6] }
  | _ => none }
def fnOperationPutBackUndoesItsMovesRow : OpenClaim := { program := "qxb6619502a", sum := "35b9e73597f8abeecc5a1121068400b2060e53f88beb43db18ca89200e3a7f23", func := "example.com/cairn/cairn/zzlaws_stack_b1.FnOperationPutBackUndoesItsMoves", spec := "fnOperationPutBackUndoesItsMoves", maps := true, apart := false }
def FnOperationPutBackUndoesItsMovesSaid : Prop := fnOperationPutBackUndoesItsMovesRow.holds Try.pinned (OpenSpec.ofChange fnOperationPutBackUndoesItsMovesSpec)

/-- ITS FALSE NEIGHBOUR: 'it returns false'. Refute it at one input. -/
def fnOperationPutBackUndoesItsMovesWrong : ChangeSpec := { name := "fnOperationPutBackUndoesItsMoves", fn := fun _ => fun
  | [d1, d2, d3, d4, d5, d6] => { results := [.lit (.bool false)], args := [d1, d2, d3, d4, d5, d6] }
  | _ => none }
def FnOperationPutBackUndoesItsMovesWrongFalsely : Prop := fnOperationPutBackUndoesItsMovesRow.holds Try.pinned (OpenSpec.ofChange fnOperationPutBackUndoesItsMovesWrong)

end Rows
end Go.Proofs.Qxb6619502a
