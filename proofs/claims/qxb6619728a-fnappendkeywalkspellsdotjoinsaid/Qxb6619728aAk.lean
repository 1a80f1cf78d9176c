/-
  'appendKey' (15), 'ZZappendKey' (13): onto a row of the call's own: in which there is room; or that may grow.
-/
import Derived.Test.Qxb6619728aPl
import Derived.Maps.AppendAt
import Derived.Room.AppendFits
namespace Go.Proofs.Qxb6619728a
open Go.ChangeShapes Go.WideShapes Go.ChangeAt Go.RowKit

theorem infoB : (Try.prog.info? 5).map (fun i => (i.zero, i.size, i.bytes)) = some (some (.int .u8 0), 1, 1) := by kernel_rfl

theorem dot_one : ∀ u ∈ [Value.int .u8 46], u.oneCell' = true := by intro u hu; simp at hu; subst hu; rfl

theorem row_emp {w : World} {base : Nat} {e : TypeId} {v : Value} {o x : ByteArray} (h0 : o.size = 0) (h : w.ownsRow base e 1 v (o.size + x.size) (Lib.strCells o ++ Lib.strCells x)) :
    w.ownsRow base e 1 v (kp o x).size (Lib.strCells (kp o x)) := by
  rw [kp_e o x h0]
  rw [h0, Nat.zero_add, strCells_empty o h0, List.nil_append] at h
  exact h
theorem kp_nsize {o x : ByteArray} (h0 : 0 < o.size) : (kp o x).size = o.size + 1 + x.size := by
  rw [kp_n o x h0]; simp only [ByteArray.size_append]; rfl
theorem row_full {w : World} {base : Nat} {e : TypeId} {v : Value} {o x : ByteArray} (h0 : 0 < o.size) (h : w.ownsRow base e 1 v (o.size + 1 + x.size) (Lib.strCells o ++ .int .u8 46 :: Lib.strCells x)) :
    w.ownsRow base e 1 v (kp o x).size (Lib.strCells (kp o x)) := by
  rw [kp_nsize h0, kp_n o x h0, strCells_append, strCells_append, strCells_dot, List.append_assoc]
  exact h

set_option maxHeartbeats 400000 in
theorem ak_room0 (key : ByteArray) (g m base : Nat) (w : World) (hown : w.ownsRow base 5 1 (.slice (some ⟨g, 0, none⟩) 0 m) 0 []) (hroom : key.size ≤ m) (h0 : 0 < m) (hbase : base ≤ w.heap.size) :
    Calls Try.prog 15 #[.slice (some ⟨g, 0, none⟩) 0 m, .string key] w fun e w' => e = .returned (.slice (some ⟨g, 0, none⟩) key.size m) ∧
      w'.ownsRow base 5 1 (.slice (some ⟨g, 0, none⟩) key.size m) key.size (Lib.strCells key) ∧ Below base w w' := by
  obtain ⟨i5, hi5, hy0, hy1, hy2⟩ := info_parts infoB
  have hbg : base ≤ g := (hown.lt g rfl).1
  go_enter Try.func15, Try.ntmps15
  go_wp2_with (at_builtin; refine Lib.wpList_append_fits_string _ rfl (.tmp 11) (.tmp 12) 27 9 rfl base 5 i5 Try.underlying27 Try.underlying9 hi5 hy1 (some ⟨g, 0, none⟩) 0 m [] rfl hown key rfl h0 (by omega) ?_)
  intro w1 hown1 hgr1
  have hb1 : Below base w w1 := (Below.refl _ _).grown hgr1 hbase (fun k h => by cases h; exact hbg)
  go_wp2
  go_ret
  exact ⟨rfl, hown1, hb1⟩

set_option maxHeartbeats 400000 in
theorem ak_room1 (n : Nat) (xs : List Value) (key : ByteArray) (g m base : Nat) (w : World) (hown : w.ownsRow base 5 1 (.slice (some ⟨g, 0, none⟩) n m) n xs) (hn : 0 < n) (hroom : n + 1 + key.size ≤ m) (hbase : base ≤ w.heap.size) :
    Calls Try.prog 15 #[.slice (some ⟨g, 0, none⟩) n m, .string key] w fun e w' => e = .returned (.slice (some ⟨g, 0, none⟩) (n + 1 + key.size) m) ∧
      w'.ownsRow base 5 1 (.slice (some ⟨g, 0, none⟩) (n + 1 + key.size) m) (n + 1 + key.size) (xs ++ .int .u8 46 :: Lib.strCells key) ∧ Below base w w' := by
  obtain ⟨i5, hi5, hy0, hy1, hy2⟩ := info_parts infoB
  have hbg : base ≤ g := (hown.lt g rfl).1
  go_enter Try.func15, Try.ntmps15
  go_wp2_with (at_builtin; refine wpList_append_fits _ rfl (.tmp 8) (.tmp 9) 27 rfl base 5 i5 1 Try.underlying27 hi5 hy1 g n m xs rfl (hown.alloc _) ⟨w.heap.size, 0, none⟩ 1 1 [.int .u8 46] rfl rfl (cell_one_new _ _ _) dot_one (by omega) ?_)
  intro w1 hown1 hgr1
  have hb1 : Below base w w1 := ((Below.refl _ _).alloc hbase _).grown hgr1 (by simp; omega) (fun k h => by cases h; exact hbg)
  have hz1 : base ≤ w1.heap.size := Nat.le_trans hbase hb1.size
  clear hgr1 hown
  go_wp2_with (at_builtin; refine Lib.wpList_append_fits_string _ rfl (.tmp 11) (.tmp 12) 27 9 rfl base 5 i5 Try.underlying27 Try.underlying9 hi5 hy1 (some ⟨g, 0, none⟩) (n + 1) m (xs ++ [.int .u8 46]) rfl hown1 key rfl (by omega) (by omega) ?_)
  intro w2 hown2 hgr2
  have hb2 : Below base w w2 := hb1.grown hgr2 hz1 (fun k h => by cases h; exact hbg)
  clear hgr2 hown1 hb1
  go_wp2
  go_ret
  exact ⟨rfl, by simpa using hown2, hb2⟩

/-- 'appendKey' where there is room. -/
theorem appendKey_room (s key : ByteArray) (g m base : Nat) (w : World) (hown : w.ownsRow base 5 1 (.slice (some ⟨g, 0, none⟩) s.size m) s.size (Lib.strCells s)) (hroom : s.size + 1 + key.size ≤ m) (hbase : base ≤ w.heap.size) :
    Calls Try.prog 15 #[.slice (some ⟨g, 0, none⟩) s.size m, .string key] w fun e w' => e = .returned (.slice (some ⟨g, 0, none⟩) (kp s key).size m) ∧
      w'.ownsRow base 5 1 (.slice (some ⟨g, 0, none⟩) (kp s key).size m) (kp s key).size (Lib.strCells (kp s key)) ∧ Below base w w' := by
  rcases Nat.eq_zero_or_pos s.size with h0 | h0
  · rw [kp_e s key h0]
    rw [h0, strCells_empty s h0] at hown
    rw [h0]
    exact ak_room0 key g m base w hown (by omega) (by omega) hbase
  · refine (ak_room1 s.size (Lib.strCells s) key g m base w hown h0 hroom hbase).mono ?_
    rintro e w' ⟨he, ho, hb⟩
    exact ⟨by rw [he, kp_nsize h0], by have := row_full h0 ho; rw [kp_nsize h0] at this ⊢; exact this, hb⟩

set_option maxHeartbeats 400000 in
theorem zzAppendKey_room (s key : ByteArray) (g m base : Nat) (w : World) (hown : w.ownsRow base 5 1 (.slice (some ⟨g, 0, none⟩) s.size m) s.size (Lib.strCells s)) (hroom : s.size + 1 + key.size ≤ m) (hbase : base ≤ w.heap.size) :
    Calls Try.prog 13 #[.slice (some ⟨g, 0, none⟩) s.size m, .string key] w fun e w' => e = .returned (.slice (some ⟨g, 0, none⟩) (kp s key).size m) ∧
      w'.ownsRow base 5 1 (.slice (some ⟨g, 0, none⟩) (kp s key).size m) (kp s key).size (Lib.strCells (kp s key)) ∧ Below base w w' := by
  go_enter Try.func13, Try.ntmps13
  go_wp2_with (go_at_call 15; refine (appendKey_room s key g m base _ hown hroom hbase).mono ?_; rintro e w' ⟨rfl, ho, hb⟩)
  go_ret
  exact ⟨rfl, ho, hb⟩

/-- The row still begins with what it began with. -/
theorem own_head {w : World} {base g m : Nat} {e : TypeId} (s key : ByteArray) (h : w.ownsRow base e 1 (.slice (some ⟨g, 0, none⟩) (kp s key).size m) (kp s key).size (Lib.strCells (kp s key))) :
    w.ownsRow base e 1 (.slice (some ⟨g, 0, none⟩) s.size m) s.size (Lib.strCells s) := by
  rcases h.2 with ⟨hv, _⟩ | ⟨g', cap, cur, hv, hbg, hg, hnc, hcm, hcs, htake⟩
  · cases hv
  · cases hv
    have hle : s.size ≤ (kp s key).size := by
      rcases Nat.eq_zero_or_pos s.size with h0 | h0
      · omega
      · rw [kp_nsize h0]; omega
    refine ⟨by rw [Lib.strCells_length, Nat.mul_one], .inr ⟨g, m, cur, rfl, hbg, hg, by omega, hcm, hcs, ?_⟩⟩
    rw [Nat.mul_one] at htake ⊢
    have e1 : cur.toList.take s.size = (cur.toList.take (kp s key).size).take s.size := by rw [List.take_take, Nat.min_eq_left hle]
    rw [e1, htake]
    rcases Nat.eq_zero_or_pos s.size with h0 | h0
    · rw [h0, strCells_empty s h0, List.take_zero]
    · rw [kp_n s key h0, strCells_append, strCells_append, List.append_assoc]
      have := Lib.strCells_length s
      rw [← this, List.take_left]
end Go.Proofs.Qxb6619728a
