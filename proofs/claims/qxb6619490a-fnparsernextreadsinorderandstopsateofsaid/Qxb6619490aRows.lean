/-
  No cell of these rows narrows 'for every input' (looked for: loops, veiled, ifaces, maps, wideKeys, modest, calm, conditions, laid).
  DERIVED. THE GIVEN ROWS OF THIS SEAT. 1 by the template 'for every input the law returns true; each argument reads behind the call as it read before'; 0 by the template 'total and deterministic' (their statements: Qxb6619490aTotals.lean).
  GIVEN WITH THE SEED: the statements are not yours to turn. If you find one false, say at which input.
  Laid BY PROGRAM, IN A SANDBOX (cutbox-rows.mjs): the forced cells as the released guide's own fill.sh prints them over the translation 7b3f7d3e075d966d… (all of the seat's roots in one cut). By AI agents, Wed Nov 11 2026. No macro, syntax, notation, axiom, sorry.
-/
import Derived.Test.Qxb6619490aChecked
import GoSem.Claim
import GoSem.ClaimJoined
import GoSem.ClaimMapViews
import Derived.JoinedTies
import Derived.KernelRfl
namespace Go.Proofs.Qxb6619490a
/- THE CELL 'sum', in the pinned program and in every row, IS THE sha256 OF THE DUMP (.gsa) THAT Qxb6619490aProg.lean LOADS. Nothing in Lean hashes anything: it is a label: what it is worth is what the hold of that sum in a sandbox is worth. -/
noncomputable def Try.pinned : Pinned := { name := "qxb6619490a", sum := "7b3f7d3e075d966d4c94d8f989bd78486502112dc36bef1a737aa8a977527363", checked := Try.checked }
namespace Rows
def none {H : Type} : Left H := { results := [], args := [] }

/-- 'zzlaws_internal_cel_b1.FnParserNextReadsInOrderAndStopsAtEOF': WHATEVER THE INPUT: true; the input reads as it did. -/
def fnParserNextReadsInOrderAndStopsAtEOFSpec : ChangeSpec := { name := "fnParserNextReadsInOrderAndStopsAtEOF", fn := fun _ => fun
  | [d1, d2, d3, d4, d5] => { results := [.lit (.bool true)], args := [d1, d2, d3, d4, d5] }
  | _ => none }
def fnParserNextReadsInOrderAndStopsAtEOFRow : OpenClaim := { program := "qxb6619490a", sum := "7b3f7d3e075d966d4c94d8f989bd78486502112dc36bef1a737aa8a977527363", func := "example.com/ustav/ustav/zzlaws_internal_cel_b1.FnParserNextReadsInOrderAndStopsAtEOF", spec := "fnParserNextReadsInOrderAndStopsAtEOF", apart := false }
def FnParserNextReadsInOrderAndStopsAtEOFSaid : Prop := fnParserNextReadsInOrderAndStopsAtEOFRow.holds Try.pinned (OpenSpec.ofChange fnParserNextReadsInOrderAndStopsAtEOFSpec)

/-- ITS FALSE NEIGHBOUR: 'it returns false'. Refute it at one input. -/
def fnParserNextReadsInOrderAndStopsAtEOFWrong : ChangeSpec := { name := "fnParserNextReadsInOrderAndStopsAtEOF", fn := fun _ => fun
  | [d1, d2, d3, d4, d5] => { results := [.lit (.bool false)], args := [d1, d2, d3, d4, d5] }
  | _ => none }
def FnParserNextReadsInOrderAndStopsAtEOFWrongFalsely : Prop := fnParserNextReadsInOrderAndStopsAtEOFRow.holds Try.pinned (OpenSpec.ofChange fnParserNextReadsInOrderAndStopsAtEOFWrong)

end Rows
end Go.Proofs.Qxb6619490a
