/-
  'FnIsPrintableASCIICutInsert' (function 3): the walk.
-/
import Derived.Test.Qxb6623392aPr
import Derived.Deep.RegionWith
import Derived.BigRegion
namespace Go.Proofs.Qxb6623392a
open Go.ChangeShapes Go.WideShapes Go.ChangeAt Go.RowKit

/-- 'string([]byte{c})'. -/
theorem conv_one (c : Int) (wx : World) : (convert 24 9 (.slice (some ⟨wx.heap.size, 0, none⟩) 1 1)).run Try.prog (wx.alloc (.cells #[.int .u8 c] 5)) = .ok (.string (strOfNums [c])) (wx.alloc (.cells #[.int .u8 c] 5)) :=
  run_convert_bytes_arg (P := Try.prog) (wx.alloc (.cells #[.int .u8 c] 5)) 24 5 Try.underlying24 Try.underlying5 wx.heap.size 0 1 1 [c] rfl (fun i hi => by
    have : i = 0 := by omega
    subst this
    simp) 9 Try.underlying9
theorem conv_oneD (c : Int) (wx : World) : (convert 24 9 (.slice (some ⟨wx.heap.size, 0, none⟩) 1 1)).run Try.prog (wx.alloc (.cells #[.int .u8 c] 5)).drew = .ok (.string (strOfNums [c])) (wx.alloc (.cells #[.int .u8 c] 5)).drew :=
  run_convert_bytes_arg (P := Try.prog) (wx.alloc (.cells #[.int .u8 c] 5)).drew 24 5 Try.underlying24 Try.underlying5 wx.heap.size 0 1 1 [c] rfl (fun i hi => by
    have : i = 0 := by omega
    subst this
    simp) 9 Try.underlying9

set_option maxHeartbeats 800000 in
theorem ma_main (s : ByteArray) (i c : Int) (w : World) (hs : s.size ≤ 1048576) (h0 : 0 ≤ i) (h1 : i ≤ s.size) (c0 : 0 ≤ c) (c1 : c ≤ 255) :
    Calls Try.prog 3 #[.string s, .int .i64 i, .int .u8 c] w fun e w' => e = .returned (.bool true) ∧ Grown w w' := by
  have cv := conv_one c
  have cvD := conv_oneD c
  have t1 : (strOfNums [c]).size = 1 := strOfNums_size _
  have eO : gl c = prB (strOfNums [c]) := (prB_one c c0 c1).symm
  have HO : Hid (gl c = prB (strOfNums [c])) := eO
  clear eO c0 c1
  generalize strOfNums [c] = t at cv cvD t1 HO
  go_enter Try.func3, Try.ntmps3
  go_wp2_with fail
  refine (bytes4 s i c w (by omega)).mono ?_
  rintro e w' ⟨⟨r, rfl⟩, hw'⟩
  subst hw'
  cases r with
  | false =>
    go_wp2
    go_ret
    exact ⟨rfl, Grown.refl _⟩
  | true =>
    go_wp2_with (go_at_call 5; refine (zzIsPrintable _ _ (by first | omega | (simp only [ByteArray.size_extract]; omega))).mono ?_; rintro e w1 ⟨rfl, rfl⟩)
    have hb : Grown w1 (w1.alloc (.cells #[.int .u8 c] 5)) := (Grown.refl _).alloc _ _
    generalize w1.alloc (.cells #[.int .u8 c] 5) = w2 at hb
    go_region_with ((go_at_call 5; refine (zzIsPrintable _ _ (by simp only [ByteArray.size_extract, ByteArray.size_append]; omega)).mono ?_; rintro e w1 ⟨rfl, rfl⟩))
    have hb3 : Grown w1 (w2.alloc (.cells #[.int .u8 c] 5)).drew := (hb.alloc _ _).drew
    clear cv cvD hb
    generalize (w2.alloc (.cells #[.int .u8 c] 5)).drew = w3 at hb3
    have eW : prB s = (prB (s.extract 0 i.toNat) && prB (s.extract i.toNat s.size)) := prB_cut s i.toNat (by omega)
    have eG : prB (s.extract 0 i.toNat ++ t ++ s.extract i.toNat s.size) = (prB (s.extract 0 i.toNat) && prB t && prB (s.extract i.toNat s.size)) := by rw [prB_append, prB_append]
    have eE : prB ByteArray.empty = true := rfl
    have zE : ByteArray.empty.size ≤ 4611686018427387904 := Nat.zero_le _
    obtain ⟨A, hA⟩ : ∃ A, prB (s.extract 0 i.toNat) = A := ⟨_, rfl⟩
    obtain ⟨B, hB⟩ : ∃ B, prB (s.extract i.toNat s.size) = B := ⟨_, rfl⟩
    obtain ⟨O, hO⟩ : ∃ O, prB t = O := ⟨_, rfl⟩
    have eO := HO.out
    rw [hO] at eO
    rw [hA, hB] at eW
    rw [hA, hB, hO] at eG
    cases A <;> cases B <;> cases O <;> simp only [Bool.and_true, Bool.and_false] at eW eG
    all_goals
      go_wp2_with (first | (go_at_call 5; refine (zzIsPrintable _ _ zE).mono ?_; rintro e w4 ⟨rfl, rfl⟩) | (go_at_call 6; refine (zzGlyph _ _).mono ?_; rintro e w4 ⟨rfl, rfl⟩))
      go_ret
      exact ⟨rfl, hb3⟩

set_option maxHeartbeats 400000 in
theorem ma_out (s : ByteArray) (i c : Int) (w : World) (hs : s.size ≤ 9223372036854775807) (h : ¬ (s.size ≤ 1048576 ∧ 0 ≤ i ∧ i ≤ s.size)) :
    Calls Try.prog 3 #[.string s, .int .i64 i, .int .u8 c] w fun e w' => e = .returned (.bool true) ∧ Grown w w' := by
  go_enter Try.func3, Try.ntmps3
  go_wp2_with fail
  refine (bytes4 s i c w hs).mono ?_
  rintro e w' ⟨⟨r, rfl⟩, hw'⟩
  subst hw'
  cases r with
  | false =>
    go_wp2
    go_ret
    exact ⟨rfl, Grown.refl _⟩
  | true =>
    by_cases c1 : s.size ≤ 1048576
    · by_cases c2 : i < 0
      · clear h
        go_wp2
        go_ret
        exact ⟨rfl, Grown.refl _⟩
      · have c3 : (s.size : Int) < i := by omega
        clear h
        go_wp2
        go_ret
        exact ⟨rfl, Grown.refl _⟩
    · clear h
      go_wp2
      go_ret
      exact ⟨rfl, Grown.refl _⟩
end Go.Proofs.Qxb6623392a
