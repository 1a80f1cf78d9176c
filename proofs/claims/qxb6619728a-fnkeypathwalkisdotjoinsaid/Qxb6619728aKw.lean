/-
  'FnKeyPathWalkIsDotJoin' (function 3): the walk.
-/
import Derived.Test.Qxb6619728aDj
namespace Go.Proofs.Qxb6619728a
open Go.ChangeShapes Go.WideShapes Go.ChangeAt Go.RowKit

theorem outB_one (a : ByteArray) (ss : List ByteArray) : outB (a :: ss) 1 = a := by
  simp [outB, fk_cons]

set_option maxHeartbeats 800000 in
theorem kw_main (a : ByteArray) (ao : Option Addr) (cap : Nat) (ss : List ByteArray) (w : World) (ha : a.size ≤ 9223372036854775807) (hl : ss.length ≤ 9223372036854775807) (hk : KeysAt w ao ss) :
    Calls Try.prog 3 #[.string a, .slice ao ss.length cap] w fun e w' => e = .returned (.bool true) ∧ Below w.heap.size w w' := by
  go_enter Try.func3, Try.ntmps3
  go_wp2_with fail
  refine (bytes7 a ao cap ss w ha hl hk).mono ?_
  rintro e w' ⟨r, rfl, hw', hg⟩
  subst hw'
  cases r with
  | false =>
    go_wp2
    go_ret
    exact ⟨rfl, Below.refl _ _⟩
  | true =>
    have hw := hg rfl
    clear hg ha hl
    have hl : ss.length ≤ 1048576 := by have := wt_len ss; omega
    have ha : a.size ≤ 1048576 := by omega
    by_cases h1 : a.size ≤ 65536
    · by_cases h2 : ss.length ≤ 4096
      · go_wp2
        go_loop [5, 6] (fun t j => ∃ k : Nat, k ≤ ss.length ∧ j = .int .i64 k ∧ ∃ s : Nat, t = .int .i64 s ∧ s ≤ 65536) (fun _ j => ss.length - (intOf j).toNat)
        case atStart => exact ⟨0, Nat.zero_le _, rfl, a.size, rfl, h1⟩
        case round =>
          obtain ⟨k, hk1, rfl, s, rfl, hs⟩ := hrel
          by_cases hlt : k < ss.length
          · obtain ⟨b, off, hao, hbl, hc, _⟩ := hk k hlt
            subst hao
            generalize ss.getD k ByteArray.empty = x at hc
            by_cases hx : x.size ≤ 65536
            · go_wp2
              · go_ret
                exact ⟨rfl, Below.refl _ _⟩
              · go_round
                case rel => exact ⟨k + 1, by omega, by go_num, s + (16 + x.size), by go_num, by omega⟩
                case measure => simp [intOf]; omega
            · go_wp2
              go_ret
              exact ⟨rfl, Below.refl _ _⟩
          · clear hs
            go_wp2
            go_loop [7, 8] (fun p j => ∃ m : Nat, m ≤ ss.length ∧ j = .int .i64 m ∧ p = .string (outB (a :: ss) (m + 1))) (fun _ j => ss.length - (intOf j).toNat)
            case atStart => exact ⟨0, Nat.zero_le _, rfl, by rw [outB_one]⟩
            case round =>
              obtain ⟨m, hm1, rfl, rfl⟩ := hrel
              by_cases hlt2 : m < ss.length
              · obtain ⟨b, off, hao, hbl, hc, _⟩ := hk m hlt2
                subst hao
                have HO : Hid (outB (a :: ss) (m + 1 + 1) = kp (outB (a :: ss) (m + 1)) (ss.getD m ByteArray.empty)) := outB_succ (a :: ss) (m + 1) (by simp only [List.length_cons]; omega)
                have hbd : (outB (a :: ss) (m + 1)).size + (ss.getD m ByteArray.empty).size ≤ 4194304 := by
                  have h3 := outB_bd (a :: ss) (m + 1) (by simp only [List.length_cons]; omega)
                  rw [wt_cons] at h3
                  have e : (a :: ss).getD (m + 1) ByteArray.empty = ss.getD m ByteArray.empty := rfl
                  rw [e] at h3
                  omega
                generalize ss.getD m ByteArray.empty = x at hc HO hbd
                generalize outB (a :: ss) (m + 1) = p at HO hbd
                go_wp2_with (go_at_call 8; refine (keyPath_any _ _ _ hbd).mono ?_; rintro e w1 ⟨rfl, rfl⟩)
                go_round
                case rel => exact ⟨m + 1, by omega, by go_num, by rw [HO.out]⟩
                case measure => simp [intOf]; omega
              · rw [outB_all (a :: ss) (m + 1) (by simp only [List.length_cons]; omega)]
                go_wp2_with (go_at_call 9; refine (dotJoin a ao cap ss _ hk hw).mono ?_; rintro e w1 ⟨rfl, hb⟩)
                go_ret
                exact ⟨rfl, hb⟩
      · go_wp2
        go_ret
        exact ⟨rfl, Below.refl _ _⟩
    · go_wp2
      go_ret
      exact ⟨rfl, Below.refl _ _⟩
end Go.Proofs.Qxb6619728a
