/-
  No cell of these rows narrows 'for every input' (looked for: loops, veiled, ifaces, maps, wideKeys, modest, calm, conditions, laid).
  DERIVED. THE GIVEN ROWS OF THIS SEAT. 1 by the template 'for every input the law returns true; each argument reads behind the call as it read before'; 0 by the template 'total and deterministic' (their statements: Qxb6623392aTotals.lean).
  GIVEN WITH THE SEED: the statements are not yours to turn. If you find one false, say at which input.
  Laid BY PROGRAM, IN A SANDBOX (cutbox-rows.mjs): the forced cells as the released guide's own fill.sh prints them over the translation 4f65ce3dc4805680… (all of the seat's roots in one cut). By AI agents, Wed Nov 11 2026. No macro, syntax, notation, axiom, sorry.
-/
import Derived.Test.Qxb6623392aChecked
import GoSem.Claim
import GoSem.ClaimJoined
import GoSem.ClaimMapViews
import Derived.JoinedTies
import Derived.KernelRfl
namespace Go.Proofs.Qxb6623392a
/- THE CELL 'sum', in the pinned program and in every row, IS THE sha256 OF THE DUMP (.gsa) THAT Qxb6623392aProg.lean LOADS. Nothing in Lean hashes anything: it is a label: what it is worth is what the hold of that sum in a sandbox is worth. -/
noncomputable def Try.pinned : Pinned := { name := "qxb6623392a", sum := "4f65ce3dc4805680e65396aad9da295feb31b24906bf5390bdec11446c790d7f", checked := Try.checked }
namespace Rows
def none {H : Type} : Left H := { results := [], args := [] }

/-- 'zzlaws_input_b1.FnIsPrintableASCIICutInsert': WHATEVER THE INPUT: true; the input reads as it did. -/
def fnIsPrintableASCIICutInsertSpec : ChangeSpec := { name := "fnIsPrintableASCIICutInsert", fn := fun _ => fun
  | [d1, d2, d3] => { results := [.lit (.bool true)], args := [d1, d2, d3] }
  | _ => none }
def fnIsPrintableASCIICutInsertRow : OpenClaim := { program := "qxb6623392a", sum := "4f65ce3dc4805680e65396aad9da295feb31b24906bf5390bdec11446c790d7f", func := "example.com/tuoguan/tuoguan/zzlaws_input_b1.FnIsPrintableASCIICutInsert", spec := "fnIsPrintableASCIICutInsert", apart := false }
def FnIsPrintableASCIICutInsertSaid : Prop := fnIsPrintableASCIICutInsertRow.holds Try.pinned (OpenSpec.ofChange fnIsPrintableASCIICutInsertSpec)

/-- ITS FALSE NEIGHBOUR: 'it returns false'. Refute it at one input. -/
def fnIsPrintableASCIICutInsertWrong : ChangeSpec := { name := "fnIsPrintableASCIICutInsert", fn := fun _ => fun
  | [d1, d2, d3] => { results := [.lit (.bool false)], args := [d1, d2, d3] }
  | _ => none }
def FnIsPrintableASCIICutInsertWrongFalsely : Prop := fnIsPrintableASCIICutInsertRow.holds Try.pinned (OpenSpec.ofChange fnIsPrintableASCIICutInsertWrong)

end Rows
end Go.Proofs.Qxb6623392a
