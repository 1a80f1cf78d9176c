import Derived.Test.Qxb6619728aRows
import Derived.WalkKit
import Derived.ProofKit
import Derived.OpenShut
import Derived.ShutString
import Derived.WalkLawsBesides
import Derived.Outline
namespace Go.Proofs.Qxb6619728a
open Go.ChangeShapes Go.WideShapes Go.ChangeAt Go.RowKit

/-- What 'KeyPath' computes. -/
def kp (a b : ByteArray) : ByteArray := if a.toList.isEmpty = true then b else a ++ ⟨#[46]⟩ ++ b

set_option maxHeartbeats 400000 in
theorem keyPath_any (a b : ByteArray) (w : World) (hs : a.size + b.size ≤ 4194304) :
    Calls Try.prog 8 #[.string a, .string b] w fun e w' => e = .returned (.string (kp a b)) ∧ w' = w := by
  by_cases ha : a.toList.isEmpty = true
  · rw [show kp a b = b from if_pos ha]
    go_enter Try.func8, Try.ntmps8
    go_wp2
    go_ret
    exact ⟨rfl, rfl⟩
  · rw [show kp a b = a ++ ⟨#[46]⟩ ++ b from if_neg ha]
    have ha' : a.toList.isEmpty = false := by simpa using ha
    clear ha
    go_enter Try.func8, Try.ntmps8
    go_wp2
    go_ret
    exact ⟨rfl, rfl⟩

end Go.Proofs.Qxb6619728a
