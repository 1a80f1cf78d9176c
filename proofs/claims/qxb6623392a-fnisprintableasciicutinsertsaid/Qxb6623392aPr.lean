/-
  'isPrintableASCII' (7), 'ZZisPrintableASCII' (5), 'zzGlyph' (6), the guard (4); the plain laws.
-/
import Derived.Test.Qxb6623392aRows
import Derived.WalkKit
import Derived.ProofKit
import Derived.OpenShut
import Derived.ShutString
import Derived.WalkLawsBesides
import Derived.Outline
import Derived.Laws.BytesArg
namespace Go.Proofs.Qxb6623392a
open Go.ChangeShapes Go.WideShapes Go.ChangeAt Go.RowKit

/-- One byte. -/
def pc (c : UInt8) : Bool := decide (32 ≤ c.toNat ∧ c.toNat ≤ 126)
/-- Each byte of s. -/
def prB (s : ByteArray) : Bool := s.data.toList.all pc
/-- The first k bytes of s. -/
def prK (s : ByteArray) (k : Nat) : Bool := (s.data.toList.take k).all pc
/-- 'zzGlyph'. -/
def gl (c : Int) : Bool := decide (32 ≤ c ∧ c ≤ 126)

theorem pc_t (c : UInt8) (h1 : ¬ (c.toNat : Int) < 32) (h2 : ¬ (126 : Int) < c.toNat) : pc c = true := by simp only [pc, decide_eq_true_eq]; omega
theorem pc_f (c : UInt8) (h : (c.toNat : Int) < 32 ∨ (126 : Int) < c.toNat) : pc c = false := by simp only [pc, decide_eq_false_iff_not]; omega

theorem prK_zero (s : ByteArray) : prK s 0 = true := by simp [prK]
theorem prK_succ (s : ByteArray) (k : Nat) (h : k < s.size) (hk : prK s k = true) (hc : pc s[k] = true) : prK s (k + 1) = true := by
  have hl : k < s.data.toList.length := by rw [Array.length_toList, ByteArray.size_data]; exact h
  unfold prK at hk ⊢
  have e : s.data.toList[k] = s[k] := rfl
  rw [List.take_succ_eq_append_getElem hl, List.all_append, hk, e]
  simp [hc]
theorem prB_f (s : ByteArray) (k : Nat) (h : k < s.size) (hc : pc s[k] = false) : prB s = false := by
  have hl : k < s.data.toList.length := by rw [Array.length_toList, ByteArray.size_data]; exact h
  unfold prB
  rw [List.all_eq_false]
  exact ⟨s.data.toList[k], List.getElem_mem hl, by rw [show s.data.toList[k] = s[k] from rfl, hc]; decide⟩
theorem prB_t (s : ByteArray) (k : Nat) (h : s.size ≤ k) (hk : prK s k = true) : prB s = true := by
  have hl : s.data.toList.length ≤ k := by rw [Array.length_toList, ByteArray.size_data]; exact h
  unfold prK at hk
  rw [List.take_of_length_le hl] at hk
  exact hk

theorem ret_bool {a b : Bool} (h : a = b) : Ending.returned (.bool a) = .returned (.bool b) := by rw [h]

set_option maxHeartbeats 400000 in
theorem isPrintable (s : ByteArray) (w : World) (hs : s.size ≤ 4611686018427387904) :
    Calls Try.prog 7 #[.string s] w fun e w' => e = .returned (.bool (prB s)) ∧ w' = w := by
  go_enter Try.func7, Try.ntmps7
  go_wp2
  go_loop [3] (fun i => ∃ k : Nat, k ≤ s.size ∧ i = .int .i64 k ∧ prK s k = true) (fun i => s.size - (intOf i).toNat)
  case atStart => exact ⟨0, Nat.zero_le _, rfl, prK_zero s⟩
  case round =>
    obtain ⟨k, hk, rfl, hpr⟩ := hrel
    have HP : Hid (prK s k = true) := hpr
    clear hpr
    by_cases hlt : k < s.size
    · by_cases h1 : (s[k].toNat : Int) < 32
      · have HF : Hid (prB s = false) := prB_f s k hlt (pc_f _ (.inl h1))
        go_wp2
        go_ret
        exact ⟨ret_bool HF.out.symm, rfl⟩
      · by_cases h2 : (126 : Int) < s[k].toNat
        · have HF : Hid (prB s = false) := prB_f s k hlt (pc_f _ (.inr h2))
          go_wp2
          go_ret
          exact ⟨ret_bool HF.out.symm, rfl⟩
        · have HF : Hid (prK s (k + 1) = true) := prK_succ s k hlt HP.out (pc_t _ h1 h2)
          go_wp2
          go_round
          case rel => exact ⟨k + 1, by omega, by go_num, HF.out⟩
          case measure => simp [intOf]; omega
    · go_wp2
      go_ret
      exact ⟨ret_bool (prB_t s k (by omega) HP.out).symm, rfl⟩

set_option maxHeartbeats 400000 in
theorem zzIsPrintable (s : ByteArray) (w : World) (hs : s.size ≤ 4611686018427387904) :
    Calls Try.prog 5 #[.string s] w fun e w' => e = .returned (.bool (prB s)) ∧ w' = w := by
  go_enter Try.func5, Try.ntmps5
  go_wp2_with (go_at_call 7; refine (isPrintable s _ hs).mono ?_; rintro e w' ⟨rfl, rfl⟩)
  go_ret
  exact ⟨rfl, rfl⟩

set_option maxHeartbeats 400000 in
theorem zzGlyph (c : Int) (w : World) :
    Calls Try.prog 6 #[.int .u8 c] w fun e w' => e = .returned (.bool (gl c)) ∧ w' = w := by
  by_cases h1 : 32 ≤ c
  · by_cases h2 : c ≤ 126
    · rw [show gl c = true by simp only [gl, decide_eq_true_eq]; omega]
      go_enter Try.func6, Try.ntmps6
      go_wp2
      go_ret
      exact ⟨rfl, rfl⟩
    · rw [show gl c = false by simp only [gl, decide_eq_false_iff_not]; omega]
      go_enter Try.func6, Try.ntmps6
      go_wp2
      go_ret
      exact ⟨rfl, rfl⟩
  · rw [show gl c = false by simp only [gl, decide_eq_false_iff_not]; omega]
    go_enter Try.func6, Try.ntmps6
    go_wp2
    go_ret
    exact ⟨rfl, rfl⟩

set_option maxHeartbeats 400000 in
theorem bytes4 (s : ByteArray) (i c : Int) (w : World) (hs : s.size ≤ 9223372036854775807) :
    Calls Try.prog 4 #[.string s, .int .i64 i, .int .u8 c] w fun e w' => (∃ r, e = .returned (.bool r)) ∧ w' = w := by
  go_enter Try.func4, Try.ntmps4
  go_wp2
  all_goals
    go_ret
    exact ⟨⟨_, rfl⟩, rfl⟩

/-! ### The law, plainly -/
theorem prB_append (a b : ByteArray) : prB (a ++ b) = (prB a && prB b) := by
  simp [prB, ByteArray.data_append]
theorem prB_cut (s : ByteArray) (n : Nat) (h : n ≤ s.size) : prB s = (prB (s.extract 0 n) && prB (s.extract n s.size)) := by
  have e : s.extract 0 n ++ s.extract n s.size = s := by
    rw [ByteArray.extract_append_extract]; simp [h]
  rw [← prB_append, e]
theorem prB_one (c : Int) (h0 : 0 ≤ c) (h1 : c ≤ 255) : prB (strOfNums [c]) = gl c := by
  have e : (UInt8.ofNat c.toNat).toNat = c.toNat := by simp only [UInt8.toNat_ofNat']; omega
  simp only [prB, strOfNums_data, List.map_cons, List.map_nil, List.all_cons, List.all_nil, Bool.and_true, pc, e, gl]
  rw [decide_eq_decide]
  omega
theorem prB_none (s : ByteArray) (n : Nat) : prB (s.extract n n) = true := by
  have h : (s.extract n n).data.toList = [] := by
    apply List.eq_nil_of_length_eq_zero
    rw [Array.length_toList, ByteArray.size_data, ByteArray.size_extract]
    omega
  unfold prB
  rw [h]; rfl
end Go.Proofs.Qxb6623392a
