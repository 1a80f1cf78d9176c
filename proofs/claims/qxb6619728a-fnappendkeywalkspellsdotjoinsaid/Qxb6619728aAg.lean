/-
  'appendKey' (15), 'ZZappendKey' (13): onto a row of the call's own, which may grow; 'zzCloneBytes' (12); 'zzBytes_FnAppendKeyWalkSpellsDotJoin' (11).
-/
import Derived.Test.Qxb6619728aSi
import Derived.Test.Qxb6619728aB7
import Derived.Lib.SliceRun
namespace Go.Proofs.Qxb6619728a
open Go.ChangeShapes Go.WideShapes Go.ChangeAt Go.RowKit

/-- A slice of the call's own that spells s. -/
def Spells (base : Nat) (w : World) (v : Value) (s : ByteArray) : Prop := ∃ p c, v = .slice p s.size c ∧ w.ownsRow base 5 1 (.slice p s.size c) s.size (Lib.strCells s)
theorem Spells.of_own {base : Nat} {w : World} {v : Value} {s : ByteArray} (h : w.ownsRow base 5 1 v s.size (Lib.strCells s)) : Spells base w v s := by
  rcases h.2 with ⟨rfl, h0⟩ | ⟨g, cap, cur, rfl, _⟩
  · refine ⟨none, 0, by rw [h0], ?_⟩
    have e : Value.slice none s.size 0 = Value.slice none 0 0 := by rw [h0]
    rw [e]; exact h
  · exact ⟨some ⟨g, 0, none⟩, cap, rfl, h⟩
theorem Spells.own {base : Nat} {w : World} {v : Value} {s : ByteArray} (h : Spells base w v s) : w.ownsRow base 5 1 v s.size (Lib.strCells s) := by
  obtain ⟨p, c, rfl, h⟩ := h; exact h

theorem ownBlock_ge {base : Nat} {w : World} {v : Value} {n : Nat} {xs : List Value} (h : w.ownsRow base 5 1 v n xs) : ∀ k, v.ownBlock = some k → base ≤ k := fun k hk => (h.lt k hk).1

set_option maxHeartbeats 400000 in
theorem ak_own0 (key : ByteArray) (p : Option Addr) (c base : Nat) (w : World) (hown : w.ownsRow base 5 1 (.slice p 0 c) 0 []) (hsz : key.size ≤ 4194304) (hbase : base ≤ w.heap.size) :
    Calls Try.prog 15 #[.slice p 0 c, .string key] w fun e w' => ∃ v', e = .returned v' ∧ w'.ownsRow base 5 1 v' key.size (Lib.strCells key) ∧ Below base w w' := by
  obtain ⟨i5, hi5, hy0, hy1, hy2⟩ := info_parts infoB
  go_enter Try.func15, Try.ntmps15
  go_wp2_with (at_builtin; refine Lib.wpList_append_own_string _ rfl (.tmp 11) (.tmp 12) 27 9 rfl base 5 i5 Try.underlying27 Try.underlying9 hi5 hy0 hy1 hy2 _ 0 [] rfl hown key rfl (by unfold maxLen; omega) (by omega) hbase ?_)
  intro v1 w1 hown1 hgr1 _
  have hb1 : Below base w w1 := (Below.refl _ _).grown hgr1 hbase (ownBlock_ge hown)
  clear hgr1 hown
  go_wp2
  go_ret
  exact ⟨v1, rfl, by simpa using hown1, hb1⟩

set_option maxHeartbeats 400000 in
theorem ak_own1 (n : Nat) (xs : List Value) (key : ByteArray) (p : Option Addr) (c base : Nat) (w : World) (hown : w.ownsRow base 5 1 (.slice p n c) n xs) (hn : 0 < n) (hsz : n + 1 + key.size ≤ 4194304) (hbase : base ≤ w.heap.size) :
    Calls Try.prog 15 #[.slice p n c, .string key] w fun e w' => ∃ v', e = .returned v' ∧ w'.ownsRow base 5 1 v' (n + 1 + key.size) (xs ++ .int .u8 46 :: Lib.strCells key) ∧ Below base w w' := by
  obtain ⟨i5, hi5, hy0, hy1, hy2⟩ := info_parts infoB
  go_enter Try.func15, Try.ntmps15
  go_wp2_with (at_builtin; refine wpList_append_own _ rfl (.tmp 8) (.tmp 9) 27 rfl base 5 i5 (.int .u8 0) 1 1 Try.underlying27 hi5 hy0 hy1 hy2 rfl (by decide) _ n xs rfl (hown.alloc _) ⟨w.heap.size, 0, none⟩ 1 1 [.int .u8 46] rfl rfl (cell_one_new _ _ _) dot_one (by unfold maxLen; omega) (by omega) (by simp; omega) ?_)
  intro v1 w1 hown1 hgr1 _
  have hb1 : Below base w w1 := ((Below.refl _ _).alloc hbase _).grown hgr1 (by simp; omega) (ownBlock_ge hown)
  have hz1 : base ≤ w1.heap.size := Nat.le_trans hbase hb1.size
  clear hgr1 hown
  go_wp2_with (at_builtin; refine Lib.wpList_append_own_string _ rfl (.tmp 11) (.tmp 12) 27 9 rfl base 5 i5 Try.underlying27 Try.underlying9 hi5 hy0 hy1 hy2 v1 _ _ rfl hown1 key rfl (by unfold maxLen; omega) (by omega) hz1 ?_)
  intro v2 w2 hown2 hgr2 _
  have hb2 : Below base w w2 := hb1.grown hgr2 hz1 (ownBlock_ge hown1)
  clear hgr2 hown1 hb1
  go_wp2
  go_ret
  exact ⟨v2, rfl, by simpa using hown2, hb2⟩

theorem appendKey_own (s key : ByteArray) (v : Value) (base : Nat) (w : World) (h : Spells base w v s) (hsz : s.size + 1 + key.size ≤ 4194304) (hbase : base ≤ w.heap.size) :
    Calls Try.prog 15 #[v, .string key] w fun e w' => ∃ v', e = .returned v' ∧ Spells base w' v' (kp s key) ∧ Below base w w' := by
  obtain ⟨p, c, rfl, hown⟩ := h
  rcases Nat.eq_zero_or_pos s.size with h0 | h0
  · rw [kp_e s key h0]
    rw [h0, strCells_empty s h0] at hown
    rw [h0]
    refine (ak_own0 key p c base w hown (by omega) hbase).mono ?_
    rintro e w' ⟨v', he, ho, hb⟩
    exact ⟨v', he, Spells.of_own ho, hb⟩
  · refine (ak_own1 s.size (Lib.strCells s) key p c base w hown h0 hsz hbase).mono ?_
    rintro e w' ⟨v', he, ho, hb⟩
    exact ⟨v', he, Spells.of_own (row_full h0 ho), hb⟩

set_option maxHeartbeats 400000 in
theorem zzAppendKey_own (s key : ByteArray) (v : Value) (base : Nat) (w : World) (h : Spells base w v s) (hsz : s.size + 1 + key.size ≤ 4194304) (hbase : base ≤ w.heap.size) :
    Calls Try.prog 13 #[v, .string key] w fun e w' => ∃ v', e = .returned v' ∧ Spells base w' v' (kp s key) ∧ Below base w w' := by
  go_enter Try.func13, Try.ntmps13
  go_wp2_with fail
  refine (appendKey_own s key v base _ h hsz hbase).mono ?_
  rintro e w' ⟨v', rfl, ho, hb⟩
  go_wp2
  go_ret
  exact ⟨v', rfl, ho, hb⟩

set_option maxHeartbeats 400000 in
theorem cloneBytes (s : ByteArray) (ao : Option Addr) (cap : Nat) (w : World) (hs : s.size ≤ 1048576) (ha : BytesAt w ao s) :
    Calls Try.prog 12 #[.slice ao s.size cap] w fun e w' => ∃ v', e = .returned v' ∧ Spells w.heap.size w' v' s ∧ Below w.heap.size w w' := by
  obtain ⟨i5, hi5, hy0, hy1, hy2⟩ := info_parts infoB
  have q27 : ∀ (w : World) (a : Option Addr) (n c n' c' : Nat), (binOp .eql 27 (.slice a n c) (.slice none n' c')).run Try.prog w = .ok (.bool a.isNone) w := fun w a n c n' c' => Lib.run_eql_slice_nil w 27 5 a n c n' c' Try.underlying27
  cases ao with
  | none =>
    have h0 : s.size = 0 := by
      rcases Nat.eq_zero_or_pos s.size with h | h
      · exact h
      · obtain ⟨_, _, h', _⟩ := ha h; cases h'
    have HS : Hid (Spells w.heap.size w (.slice none 0 0) s) := Spells.of_own (by rw [h0, strCells_empty s h0]; exact World.ownsRow_nil _ _ _ _)
    clear h0
    go_enter Try.func12, Try.ntmps12
    go_wp2
    go_ret
    exact ⟨_, rfl, HS.out, Below.refl _ _⟩
  | some x =>
    go_enter Try.func12, Try.ntmps12
    go_wp2_with (at_make; refine wpList_make_room _ rfl _ _ 27 rfl 5 i5 (.int .u8 0) Try.underlying27 hi5 hy0 hy1 rfl _ _ _ _ s.size s.size rfl rfl rfl rfl (Nat.le_refl _) (by rw [hy2]; omega) (by omega) ?_)
    intro w1 hg1 hz1 hb1
    go_wp2_with (refine wpList_copy_splice rfl (.tmp 9) (.tmp 10) 27 27 rfl 5 Try.underlying27 (by rw [hi5]; exact congrArg some hy1) _ _ _ _ _ _ rfl rfl w.heap.size 0 _ 5 hg1.out (Lib.strCells s) ?c1 ?c2 ?c3 ?c4 w.heap.size w hb1 (Nat.le_refl _) ?_)
    case c1 => rw [Lib.strCells_length]; exact (Nat.min_self _).symm
    case c2 =>
      intro h
      rw [Lib.strCells_length] at h
      obtain ⟨b, off, hao, hbl, hc⟩ := ha h
      cases hao
      exact add_cells fun j v hj => by rw [hb1.cell (p := ⟨b, off + j, none⟩) hbl]; exact hc j v hj
    case c3 => rw [Lib.strCells_length]; simp only [zeros, List.length_replicate]; omega
    case c4 => exact Lib.strCells_oneCell s
    intro w2 hg2 hb2
    have hown := own_spliced (base := w.heap.size) (Lib.strCells_length s) (Nat.le_refl _) (by unfold maxLen; omega) (Nat.le_refl _) hg2.out
    clear hg1 hz1 hb1 hg2
    go_wp2
    go_ret
    exact ⟨_, rfl, Spells.of_own hown, hb2⟩

set_option maxHeartbeats 400000 in
theorem bytes11 (n : Nat) (bo : Option Addr) (c : Nat) (ao : Option Addr) (cap : Nat) (ss : List ByteArray) (w : World) (hn : n ≤ 9223372036854775807) (hl : ss.length ≤ 9223372036854775807) (hk : KeysAt w ao ss) :
    Calls Try.prog 11 #[.slice bo n c, .slice ao ss.length cap] w (Guard (n + wt ss ≤ 1048576) w) := by
  by_cases h1 : n ≤ 1048576
  · by_cases h2 : ss.length ≤ 1048576
    · by_cases h3 : n + ss.length ≤ 1048576
      · go_enter Try.func11, Try.ntmps11
        go_wp2
        go_loop [5, 6] (fun t i => ∃ k : Nat, k ≤ ss.length ∧ i = .int .i64 k ∧ ∃ s : Nat, t = .int .i64 s ∧ s ≤ 1048576 ∧ s + k = n + ss.length + wt (ss.take k)) (fun _ i => ss.length - (intOf i).toNat)
        case atStart => exact ⟨0, by omega, rfl, n + ss.length, by go_num, by omega, by simp [wt]⟩
        case round =>
          obtain ⟨k, hk1, rfl, s, rfl, hs, hsum⟩ := hrel
          by_cases hlt : k < ss.length
          · obtain ⟨b, off, hao, hb, hc, hsz⟩ := hk k hlt
            subst hao
            have HS : Hid (s + k = n + ss.length + wt (ss.take k)) := hsum
            have HW : Hid (wt (ss.take (k + 1)) = wt (ss.take k) + ((ss.getD k ByteArray.empty).size + 1)) := wt_take_succ ss k hlt
            clear hsum
            generalize ss.getD k ByteArray.empty = x at hc hsz HW
            go_wp2
            · go_ret
              exact Guard.no
            · go_ret
              exact Guard.no
            · go_round
              case rel => exact ⟨k + 1, by omega, by go_num, s + x.size, by go_num, by omega, by rw [HW.out]; have := HS.out; omega⟩
              case measure => simp [intOf]; omega
          · go_wp2
            go_ret
            refine Guard.yes ?_
            rw [List.take_of_length_le (by omega)] at hsum
            omega
      · go_enter Try.func11, Try.ntmps11
        go_wp2
        go_ret
        exact Guard.no
    · go_enter Try.func11, Try.ntmps11
      go_wp2
      go_ret
      exact Guard.no
  · go_enter Try.func11, Try.ntmps11
    go_wp2
    go_ret
    exact Guard.no
end Go.Proofs.Qxb6619728a
