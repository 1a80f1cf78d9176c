/-
  No cell of these rows narrows 'for every input' (looked for: loops, veiled, ifaces, maps, wideKeys, modest, calm, conditions, laid).
  DERIVED. THE GIVEN ROWS OF THIS SEAT. 1 by the template 'for every input the law returns true; each argument reads behind the call as it read before'; 0 by the template 'total and deterministic' (their statements: Qxb6623378aTotals.lean).
  GIVEN WITH THE SEED: the statements are not yours to turn. If you find one false, say at which input.
  Laid BY PROGRAM, IN A SANDBOX (cutbox-rows.mjs): the forced cells as the released guide's own fill.sh prints them over the translation c64e07733379dd4e… (all of the seat's roots in one cut). By AI agents, Wed Nov 11 2026. No macro, syntax, notation, axiom, sorry.
-/
import Derived.Test.Qxb6623378aChecked
import GoSem.Claim
import GoSem.ClaimJoined
import GoSem.ClaimMapViews
import Derived.JoinedTies
import Derived.KernelRfl
namespace Go.Proofs.Qxb6623378a
/- THE CELL 'sum', in the pinned program and in every row, IS THE sha256 OF THE DUMP (.gsa) THAT Qxb6623378aProg.lean LOADS. Nothing in Lean hashes anything: it is a label: what it is worth is what the hold of that sum in a sandbox is worth. -/
noncomputable def Try.pinned : Pinned := { name := "qxb6623378a", sum := "c64e07733379dd4e9f25b78272f19c82b4786b1bd565101fe225bfd30f034acc", checked := Try.checked }
namespace Rows
def none {H : Type} : Left H := { results := [], args := [] }

/-- 'zzlaws_mbox_b1.FnCharReadsWordAsPrefix': WHATEVER THE INPUT: true; the input reads as it did. -/
def fnCharReadsWordAsPrefixSpec : ChangeSpec := { name := "fnCharReadsWordAsPrefix", fn := fun _ => fun
  | [d1, d2, d3] => { results := [.lit (.bool true)], args := [d1, d2, d3] }
  | _ => none }
def fnCharReadsWordAsPrefixRow : OpenClaim := { program := "qxb6623378a", sum := "c64e07733379dd4e9f25b78272f19c82b4786b1bd565101fe225bfd30f034acc", func := "example.com/mailstead/mailstead/zzlaws_mbox_b1.FnCharReadsWordAsPrefix", spec := "fnCharReadsWordAsPrefix", apart := false }
def FnCharReadsWordAsPrefixSaid : Prop := fnCharReadsWordAsPrefixRow.holds Try.pinned (OpenSpec.ofChange fnCharReadsWordAsPrefixSpec)

/-- ITS FALSE NEIGHBOUR: 'it returns false'. Refute it at one input. -/
def fnCharReadsWordAsPrefixWrong : ChangeSpec := { name := "fnCharReadsWordAsPrefix", fn := fun _ => fun
  | [d1, d2, d3] => { results := [.lit (.bool false)], args := [d1, d2, d3] }
  | _ => none }
def FnCharReadsWordAsPrefixWrongFalsely : Prop := fnCharReadsWordAsPrefixRow.holds Try.pinned (OpenSpec.ofChange fnCharReadsWordAsPrefixWrong)

end Rows
end Go.Proofs.Qxb6623378a
