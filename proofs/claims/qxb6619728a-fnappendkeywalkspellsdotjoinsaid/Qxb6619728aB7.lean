/-
  'zzBytes_FnKeyPathWalkIsDotJoin' (function 7): it only reads; where it says true the arguments weigh at most 1<<20.
-/
import Derived.Test.Qxb6619728aPl
namespace Go.Proofs.Qxb6619728a
open Go.ChangeShapes Go.WideShapes Go.ChangeAt Go.RowKit

/-- A '[]string' that came in, of the strings ss: where it has an element it has an address. -/
def KeysAt (w : World) (ao : Option Addr) (ss : List ByteArray) : Prop :=
  ∀ i, i < ss.length → ∃ b off, ao = some ⟨b, off, none⟩ ∧ b < w.heap.size ∧ w.cell? ⟨b, off + i, none⟩ = some (.string (ss.getD i ByteArray.empty)) ∧ (ss.getD i ByteArray.empty).size ≤ 9223372036854775807

/-- What a guard leaves: false; or true, and then 'b'; the world stands. -/
def Guard (b : Prop) (w : World) (e : Ending) (w' : World) : Prop := ∃ r, e = .returned (.bool r) ∧ w' = w ∧ (r = true → b)
theorem Guard.no {b : Prop} {w : World} : Guard b w (.returned (.bool false)) w := ⟨false, rfl, rfl, fun h => by cases h⟩
theorem Guard.yes {b : Prop} {w : World} (h : b) : Guard b w (.returned (.bool true)) w := ⟨true, rfl, rfl, fun _ => h⟩

set_option maxHeartbeats 400000 in
theorem bytes7 (a : ByteArray) (ao : Option Addr) (cap : Nat) (ss : List ByteArray) (w : World) (ha : a.size ≤ 9223372036854775807) (hl : ss.length ≤ 9223372036854775807) (hk : KeysAt w ao ss) :
    Calls Try.prog 7 #[.string a, .slice ao ss.length cap] w (Guard (a.size + wt ss ≤ 1048576) w) := by
  by_cases h1 : a.size ≤ 1048576
  · by_cases h2 : ss.length ≤ 1048576
    · by_cases h3 : a.size + ss.length ≤ 1048576
      · go_enter Try.func7, Try.ntmps7
        go_wp2
        go_loop [5, 6] (fun t i => ∃ k : Nat, k ≤ ss.length ∧ i = .int .i64 k ∧ ∃ s : Nat, t = .int .i64 s ∧ s ≤ 1048576 ∧ s + k = a.size + ss.length + wt (ss.take k)) (fun _ i => ss.length - (intOf i).toNat)
        case atStart => exact ⟨0, by omega, rfl, a.size + ss.length, by go_num, by omega, by simp [wt]⟩
        case round =>
          obtain ⟨k, hk1, rfl, s, rfl, hs, hsum⟩ := hrel
          by_cases hlt : k < ss.length
          · obtain ⟨b, off, hao, hb, hc, hsz⟩ := hk k hlt
            subst hao
            have HS : Hid (s + k = a.size + ss.length + wt (ss.take k)) := hsum
            have HW : Hid (wt (ss.take (k + 1)) = wt (ss.take k) + ((ss.getD k ByteArray.empty).size + 1)) := wt_take_succ ss k hlt
            clear hsum
            generalize ss.getD k ByteArray.empty = x at hc hsz HW
            go_wp2
            · go_ret
              exact Guard.no
            · go_ret
              exact Guard.no
            · go_round
              case rel => exact ⟨k + 1, by omega, by go_num, s + x.size, by go_num, by omega, by rw [HW.out]; have := HS.out; omega⟩
              case measure => simp [intOf]; omega
          · go_wp2
            go_ret
            refine Guard.yes ?_
            rw [List.take_of_length_le (by omega)] at hsum
            omega
      · go_enter Try.func7, Try.ntmps7
        go_wp2
        go_ret
        exact Guard.no
    · go_enter Try.func7, Try.ntmps7
      go_wp2
      go_ret
      exact Guard.no
  · go_enter Try.func7, Try.ntmps7
    go_wp2
    go_ret
    exact Guard.no
end Go.Proofs.Qxb6619728a
