/-
  No cell of these rows narrows 'for every input' (looked for: loops, veiled, ifaces, maps, wideKeys, modest, calm, conditions, laid).
  DERIVED. THE GIVEN ROWS OF THIS SEAT. 1 by the template 'for every input the law returns true; each argument reads behind the call as it read before'; 0 by the template 'total and deterministic' (their statements: Qxb6623416aTotals.lean).
  GIVEN WITH THE SEED: the statements are not yours to turn. If you find one false, say at which input.
  Laid BY PROGRAM, IN A SANDBOX (cutbox-rows.mjs): the forced cells as the released guide's own fill.sh prints them over the translation 2883fb998b59a5ee… (all of the seat's roots in one cut). By AI agents, Wed Nov 11 2026. No macro, syntax, notation, axiom, sorry.
-/
import Derived.Test.Qxb6623416aChecked
import GoSem.Claim
import GoSem.ClaimJoined
import GoSem.ClaimMapViews
import Derived.JoinedTies
import Derived.KernelRfl
namespace Go.Proofs.Qxb6623416a
/- THE CELL 'sum', in the pinned program and in every row, IS THE sha256 OF THE DUMP (.gsa) THAT Qxb6623416aProg.lean LOADS. Nothing in Lean hashes anything: it is a label: what it is worth is what the hold of that sum in a sandbox is worth. -/
noncomputable def Try.pinned : Pinned := { name := "qxb6623416a", sum := "2883fb998b59a5ee3fcf31f00f0d853df3cf0830dc1c0ab9daeb2fde179bedf3", checked := Try.checked }
namespace Rows
def none {H : Type} : Left H := { results := [], args := [] }

/-- 'zzlaws_gtid_b1.FnLastIsGreatestMember': WHATEVER THE INPUT: true; the input reads as it did. -/
def fnLastIsGreatestMemberSpec : ChangeSpec := { name := "fnLastIsGreatestMember", fn := fun _ => fun
  | [d1, d2, d3] => { results := [.lit (.bool true)], args := [d1, d2, d3] }
  | _ => none }
def fnLastIsGreatestMemberRow : OpenClaim := { program := "qxb6623416a", sum := "2883fb998b59a5ee3fcf31f00f0d853df3cf0830dc1c0ab9daeb2fde179bedf3", func := "example.com/plenum/plenum/zzlaws_gtid_b1.FnLastIsGreatestMember", spec := "fnLastIsGreatestMember", apart := false }
def FnLastIsGreatestMemberSaid : Prop := fnLastIsGreatestMemberRow.holds Try.pinned (OpenSpec.ofChange fnLastIsGreatestMemberSpec)

/-- ITS FALSE NEIGHBOUR: 'it returns false'. Refute it at one input. -/
def fnLastIsGreatestMemberWrong : ChangeSpec := { name := "fnLastIsGreatestMember", fn := fun _ => fun
  | [d1, d2, d3] => { results := [.lit (.bool false)], args := [d1, d2, d3] }
  | _ => none }
def FnLastIsGreatestMemberWrongFalsely : Prop := fnLastIsGreatestMemberRow.holds Try.pinned (OpenSpec.ofChange fnLastIsGreatestMemberWrong)

end Rows
end Go.Proofs.Qxb6623416a
