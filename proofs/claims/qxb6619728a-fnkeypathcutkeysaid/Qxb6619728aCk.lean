import Derived.Test.Qxb6619728aKp
import Derived.Deep.QuietTactic
import Derived.BigQuiet
namespace Go.Proofs.Qxb6619728a
open Go.ChangeShapes Go.WideShapes Go.ChangeAt Go.RowKit

set_option maxHeartbeats 400000 in
theorem bytes10_yes (a b : ByteArray) (i : Int) (w : World) (h : a.size + b.size ≤ 1048576) :
    Calls Try.prog 10 #[.string a, .string b, .int .i64 i] w fun e w' => e = .returned (.bool true) ∧ w' = w := by
  go_enter Try.func10, Try.ntmps10
  go_wp2
  go_ret
  exact ⟨rfl, rfl⟩

set_option maxHeartbeats 400000 in
theorem bytes10_no (a b : ByteArray) (i : Int) (w : World) (h : ¬ a.size + b.size ≤ 1048576) (ha : a.size ≤ maxLen) (hb : b.size ≤ maxLen) :
    Calls Try.prog 10 #[.string a, .string b, .int .i64 i] w fun e w' => e = .returned (.bool false) ∧ w' = w := by
  unfold maxLen at ha hb
  by_cases h1 : a.size ≤ 1048576
  · by_cases h2 : b.size ≤ 1048576
    · go_enter Try.func10, Try.ntmps10
      go_wp2
      go_ret
      exact ⟨rfl, rfl⟩
    · go_enter Try.func10, Try.ntmps10
      go_wp2
      go_ret
      exact ⟨rfl, rfl⟩
  · go_enter Try.func10, Try.ntmps10
    go_wp2
    go_ret
    exact ⟨rfl, rfl⟩

theorem kp_size (a b : ByteArray) : (kp a b).size ≤ a.size + b.size + 1 := by
  unfold kp
  split
  · omega
  · have : (⟨#[46]⟩ : ByteArray).size = 1 := rfl
    simp only [ByteArray.size_append]; omega

theorem kp_cut (a b : ByteArray) (n : Nat) (h : n ≤ b.size) : kp a b = kp a (b.extract 0 n) ++ b.extract n b.size := by
  have e : b.extract 0 n ++ b.extract n b.size = b := by
    rw [ByteArray.extract_append_extract]; simp [h]
  unfold kp
  split
  · exact e.symm
  · rw [ByteArray.append_assoc (a := a ++ _), e]

theorem isEmpty_size (a : ByteArray) (h : 0 < a.size) : a.toList.isEmpty = false := by
  rw [ByteArray.toList_eq]
  rw [List.isEmpty_eq_false_iff, ← List.length_pos_iff]
  rw [Array.length_toList, ByteArray.size_data]; exact h

theorem kp_dot (a b : ByteArray) (n : Nat) (h0 : 0 < n) (h : n < b.size) (hd : b[n].toNat = 46) :
    kp a b = kp (kp a (b.extract 0 n)) (b.extract (n + 1) b.size) := by
  have e : b.extract n b.size = ⟨#[46]⟩ ++ b.extract (n + 1) b.size := by
    have e1 : b.extract n b.size = b.extract n (n + 1) ++ b.extract (n + 1) b.size := by
      rw [ByteArray.extract_append_extract]; congr 1 <;> omega
    have e2 : b.extract n (n + 1) = ⟨#[46]⟩ := by
      apply ByteArray.ext
      rw [ByteArray.data_extract]
      apply Array.ext
      · simp [← ByteArray.size_data] at h ⊢; omega
      · intro i h1 h2
        have : i = 0 := by simp at h2; omega
        subst this
        simp [Array.getElem_extract]
        exact UInt8.toNat_inj.1 hd
    rw [e1, e2]
  have ne : (kp a (b.extract 0 n)).toList.isEmpty = false := by
    apply isEmpty_size
    unfold kp
    split
    · simp only [ByteArray.size_extract]; omega
    · simp only [ByteArray.size_append, ByteArray.size_extract]; omega
  rw [kp_cut a b n (by omega), e]
  generalize kp a (b.extract 0 n) = z at ne ⊢
  unfold kp
  rw [if_neg (by rw [ne]; decide), ByteArray.append_assoc]

theorem grownN {w w' : World} (h : Grown w w') (n : Nat) : Grown w (w'.drewN n) := h
theorem ret_bool {a b : Bool} (h : a = b) : Ending.returned (.bool a) = .returned (.bool b) := by rw [h]

set_option maxHeartbeats 400000 in
theorem ck_main (a b : ByteArray) (i : Int) (w : World) (h : a.size + b.size ≤ 1048576) (ha : a.size ≤ 262144) (hb : b.size ≤ 262144) (h0 : 0 ≤ i) (h1 : i ≤ b.size) :
    Calls Try.prog 4 #[.string a, .string b, .int .i64 i] w fun e w' => e = .returned (.bool true) ∧ Grown w w' := by
  have hk := kp_size a (b.extract 0 i.toNat)
  simp only [ByteArray.size_extract] at hk
  have hk1 : (kp a (b.extract 0 i.toNat)).size ≤ 600000 := by omega
  have hcut : ((kp a b).toList == (kp a (b.extract 0 i.toNat) ++ b.extract i.toNat b.size).toList) = true := by
    rw [← kp_cut a b i.toNat (by omega)]; exact beq_self_eq_true _
  clear hk
  go_enter Try.func4, Try.ntmps4
  go_wp2_with (first | (go_at_call 10; refine (bytes10_yes _ _ _ _ h).mono ?_; rintro e w' ⟨rfl, rfl⟩) | (go_at_call 8; refine (keyPath_any _ _ _ (by omega)).mono ?_; rintro e w' ⟨rfl, rfl⟩))
  go_quiet ((go_at_call 8; exact Calls.quiet_of_same (keyPath_any _ _ _ (by simp; omega))))
  have hg := grownN (Grown.refl w') nq
  generalize w'.drewN nq = w2 at hg ⊢
  go_wp2
  · have hi : 0 < i := by assumption
    have hlt : i < b.size := by assumption
    go_quiet ((go_at_call 8; exact Calls.quiet_of_same (keyPath_any _ _ _ (by simp only [ByteArray.size_extract]; omega))))
    go_wp2
    go_ret
    refine ⟨ret_bool ?_, ?_⟩
    · have e1 : (i + 1).toNat = i.toNat + 1 := by omega
      have hd : b[i.toNat].toNat = 46 := by
        have : ((b[i.toNat].toNat : Int) == 46) = true := by assumption
        have := eq_of_beq this
        omega
      rw [e1, ← kp_dot a b i.toNat (by omega) (by omega) hd]
      exact beq_self_eq_true _
    · exact grownN hg nq
  all_goals
    go_ret
    exact ⟨rfl, hg⟩

set_option maxHeartbeats 400000 in
theorem ck_out (a b : ByteArray) (i : Int) (w : World) (ha : a.size ≤ maxLen) (hb : b.size ≤ maxLen)
    (h : ¬ (a.size + b.size ≤ 1048576 ∧ a.size ≤ 262144 ∧ b.size ≤ 262144 ∧ 0 ≤ i ∧ i ≤ b.size)) :
    Calls Try.prog 4 #[.string a, .string b, .int .i64 i] w fun e w' => e = .returned (.bool true) ∧ Grown w w' := by
  by_cases hs : a.size + b.size ≤ 1048576
  · clear ha hb
    by_cases ha : a.size ≤ 262144
    · by_cases hb : b.size ≤ 262144
      · by_cases h0 : i < 0
        · clear h
          go_enter Try.func4, Try.ntmps4
          go_wp2_with (go_at_call 10; refine (bytes10_yes _ _ _ _ hs).mono ?_; rintro e w' ⟨rfl, rfl⟩)
          go_ret
          exact ⟨rfl, Grown.refl _⟩
        · have h0' : 0 ≤ i := by omega
          have h1 : (b.size : Int) < i := by omega
          clear h h0
          go_enter Try.func4, Try.ntmps4
          go_wp2_with (go_at_call 10; refine (bytes10_yes _ _ _ _ hs).mono ?_; rintro e w' ⟨rfl, rfl⟩)
          go_ret
          exact ⟨rfl, Grown.refl _⟩
      · clear h
        go_enter Try.func4, Try.ntmps4
        go_wp2_with (go_at_call 10; refine (bytes10_yes _ _ _ _ hs).mono ?_; rintro e w' ⟨rfl, rfl⟩)
        go_ret
        exact ⟨rfl, Grown.refl _⟩
    · clear h
      go_enter Try.func4, Try.ntmps4
      go_wp2_with (go_at_call 10; refine (bytes10_yes _ _ _ _ hs).mono ?_; rintro e w' ⟨rfl, rfl⟩)
      go_ret
      exact ⟨rfl, Grown.refl _⟩
  · clear h
    go_enter Try.func4, Try.ntmps4
    go_wp2_with (go_at_call 10; refine (bytes10_no _ _ _ _ hs ha hb).mono ?_; rintro e w' ⟨rfl, rfl⟩)
    go_ret
    exact ⟨rfl, Grown.refl _⟩
end Go.Proofs.Qxb6619728a
