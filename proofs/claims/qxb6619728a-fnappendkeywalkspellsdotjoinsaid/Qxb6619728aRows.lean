/-
  No cell of these rows narrows 'for every input' (looked for: loops, veiled, ifaces, maps, wideKeys, modest, calm, conditions, laid).
  DERIVED. THE GIVEN ROWS OF THIS SEAT. 4 by the template 'for every input the law returns true; each argument reads behind the call as it read before'; 0 by the template 'total and deterministic' (their statements: Qxb6619728aTotals.lean).
  GIVEN WITH THE SEED: the statements are not yours to turn. If you find one false, say at which input.
  Laid BY PROGRAM, IN A SANDBOX (cutbox-rows.mjs): the forced cells as the released guide's own fill.sh prints them over the translation f2ef2e66ea3438f2… (all of the seat's roots in one cut). By AI agents, Wed Nov 11 2026. No macro, syntax, notation, axiom, sorry.
-/
import Derived.Test.Qxb6619728aChecked
import GoSem.Claim
import GoSem.ClaimJoined
import GoSem.ClaimMapViews
import Derived.JoinedTies
import Derived.KernelRfl
namespace Go.Proofs.Qxb6619728a
/- THE CELL 'sum', in the pinned program and in every row, IS THE sha256 OF THE DUMP (.gsa) THAT Qxb6619728aProg.lean LOADS. Nothing in Lean hashes anything: it is a label: what it is worth is what the hold of that sum in a sandbox is worth. -/
noncomputable def Try.pinned : Pinned := { name := "qxb6619728a", sum := "f2ef2e66ea3438f2e219598377bd02baca37b2070bdfb49bf8ea3ba166681c3c", checked := Try.checked }
namespace Rows
def none {H : Type} : Left H := { results := [], args := [] }

/-- 'zzlaws_internal_strict_b1.FnKeyPathWalkIsDotJoin': WHATEVER THE INPUT: true; the input reads as it did. -/
def fnKeyPathWalkIsDotJoinSpec : ChangeSpec := { name := "fnKeyPathWalkIsDotJoin", fn := fun _ => fun
  | [d1, d2] => { results := [.lit (.bool true)], args := [d1, d2] }
  | _ => none }
def fnKeyPathWalkIsDotJoinRow : OpenClaim := { program := "qxb6619728a", sum := "f2ef2e66ea3438f2e219598377bd02baca37b2070bdfb49bf8ea3ba166681c3c", func := "example.com/precedence/precedence/zzlaws_internal_strict_b1.FnKeyPathWalkIsDotJoin", spec := "fnKeyPathWalkIsDotJoin", apart := false }
def FnKeyPathWalkIsDotJoinSaid : Prop := fnKeyPathWalkIsDotJoinRow.holds Try.pinned (OpenSpec.ofChange fnKeyPathWalkIsDotJoinSpec)

/-- ITS FALSE NEIGHBOUR: 'it returns false'. Refute it at one input. -/
def fnKeyPathWalkIsDotJoinWrong : ChangeSpec := { name := "fnKeyPathWalkIsDotJoin", fn := fun _ => fun
  | [d1, d2] => { results := [.lit (.bool false)], args := [d1, d2] }
  | _ => none }
def FnKeyPathWalkIsDotJoinWrongFalsely : Prop := fnKeyPathWalkIsDotJoinRow.holds Try.pinned (OpenSpec.ofChange fnKeyPathWalkIsDotJoinWrong)

/-- 'zzlaws_internal_strict_b1.FnKeyPathCutKey': WHATEVER THE INPUT: true; the input reads as it did. -/
def fnKeyPathCutKeySpec : ChangeSpec := { name := "fnKeyPathCutKey", fn := fun _ => fun
  | [d1, d2, d3] => { results := [.lit (.bool true)], args := [d1, d2, d3] }
  | _ => none }
def fnKeyPathCutKeyRow : OpenClaim := { program := "qxb6619728a", sum := "f2ef2e66ea3438f2e219598377bd02baca37b2070bdfb49bf8ea3ba166681c3c", func := "example.com/precedence/precedence/zzlaws_internal_strict_b1.FnKeyPathCutKey", spec := "fnKeyPathCutKey", apart := false }
def FnKeyPathCutKeySaid : Prop := fnKeyPathCutKeyRow.holds Try.pinned (OpenSpec.ofChange fnKeyPathCutKeySpec)

/-- ITS FALSE NEIGHBOUR: 'it returns false'. Refute it at one input. -/
def fnKeyPathCutKeyWrong : ChangeSpec := { name := "fnKeyPathCutKey", fn := fun _ => fun
  | [d1, d2, d3] => { results := [.lit (.bool false)], args := [d1, d2, d3] }
  | _ => none }
def FnKeyPathCutKeyWrongFalsely : Prop := fnKeyPathCutKeyRow.holds Try.pinned (OpenSpec.ofChange fnKeyPathCutKeyWrong)

/-- 'zzlaws_internal_strict_b1.FnAppendKeyWalkSpellsDotJoin': WHATEVER THE INPUT: true; the input reads as it did. -/
def fnAppendKeyWalkSpellsDotJoinSpec : ChangeSpec := { name := "fnAppendKeyWalkSpellsDotJoin", fn := fun _ => fun
  | [d1, d2] => { results := [.lit (.bool true)], args := [d1, d2] }
  | _ => none }
def fnAppendKeyWalkSpellsDotJoinRow : OpenClaim := { program := "qxb6619728a", sum := "f2ef2e66ea3438f2e219598377bd02baca37b2070bdfb49bf8ea3ba166681c3c", func := "example.com/precedence/precedence/zzlaws_internal_strict_b1.FnAppendKeyWalkSpellsDotJoin", spec := "fnAppendKeyWalkSpellsDotJoin", apart := false }
def FnAppendKeyWalkSpellsDotJoinSaid : Prop := fnAppendKeyWalkSpellsDotJoinRow.holds Try.pinned (OpenSpec.ofChange fnAppendKeyWalkSpellsDotJoinSpec)

/-- ITS FALSE NEIGHBOUR: 'it returns false'. Refute it at one input. -/
def fnAppendKeyWalkSpellsDotJoinWrong : ChangeSpec := { name := "fnAppendKeyWalkSpellsDotJoin", fn := fun _ => fun
  | [d1, d2] => { results := [.lit (.bool false)], args := [d1, d2] }
  | _ => none }
def FnAppendKeyWalkSpellsDotJoinWrongFalsely : Prop := fnAppendKeyWalkSpellsDotJoinRow.holds Try.pinned (OpenSpec.ofChange fnAppendKeyWalkSpellsDotJoinWrong)

/-- 'zzlaws_internal_strict_b1.FnAppendKeySiblingsSpellFromOneRoom': WHATEVER THE INPUT: true; the input reads as it did. -/
def fnAppendKeySiblingsSpellFromOneRoomSpec : ChangeSpec := { name := "fnAppendKeySiblingsSpellFromOneRoom", fn := fun _ => fun
  | [d1, d2, d3] => { results := [.lit (.bool true)], args := [d1, d2, d3] }
  | _ => none }
def fnAppendKeySiblingsSpellFromOneRoomRow : OpenClaim := { program := "qxb6619728a", sum := "f2ef2e66ea3438f2e219598377bd02baca37b2070bdfb49bf8ea3ba166681c3c", func := "example.com/precedence/precedence/zzlaws_internal_strict_b1.FnAppendKeySiblingsSpellFromOneRoom", spec := "fnAppendKeySiblingsSpellFromOneRoom", apart := false }
def FnAppendKeySiblingsSpellFromOneRoomSaid : Prop := fnAppendKeySiblingsSpellFromOneRoomRow.holds Try.pinned (OpenSpec.ofChange fnAppendKeySiblingsSpellFromOneRoomSpec)

/-- ITS FALSE NEIGHBOUR: 'it returns false'. Refute it at one input. -/
def fnAppendKeySiblingsSpellFromOneRoomWrong : ChangeSpec := { name := "fnAppendKeySiblingsSpellFromOneRoom", fn := fun _ => fun
  | [d1, d2, d3] => { results := [.lit (.bool false)], args := [d1, d2, d3] }
  | _ => none }
def FnAppendKeySiblingsSpellFromOneRoomWrongFalsely : Prop := fnAppendKeySiblingsSpellFromOneRoomRow.holds Try.pinned (OpenSpec.ofChange fnAppendKeySiblingsSpellFromOneRoomWrong)

end Rows
end Go.Proofs.Qxb6619728a
