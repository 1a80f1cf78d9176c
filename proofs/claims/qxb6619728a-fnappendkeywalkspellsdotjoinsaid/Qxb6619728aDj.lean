/-
  'zzDotJoin' (function 9): the fold of 'kp' over the segments.
-/
import Derived.Test.Qxb6619728aB7
import Derived.Maps.AppendAt
namespace Go.Proofs.Qxb6619728a
open Go.ChangeShapes Go.WideShapes Go.ChangeAt Go.RowKit

theorem info9 : (Try.prog.info? 9).map (fun i => (i.zero, i.size, i.bytes)) = some (some (.string ⟨#[]⟩), 1, 16) := by kernel_rfl
theorem info5 : (Try.prog.info? 5).map (fun i => (i.zero, i.size, i.bytes)) = some (some (.int .u8 0), 1, 1) := by kernel_rfl

/-- The first k segments, as cells. -/
def segC (L : List ByteArray) (k : Nat) : List Value := (L.take k).map Value.string
theorem segC_succ (L : List ByteArray) (k : Nat) (h : k < L.length) : segC L (k + 1) = segC L k ++ [.string (L.getD k ByteArray.empty)] := by
  simp only [segC]
  rw [take_snoc L k h, List.map_append]
  rfl
theorem segC_get (L : List ByteArray) (k j : Nat) (h : j < k) (hk : k ≤ L.length) : (segC L k)[j]? = some (.string (L.getD j ByteArray.empty)) := by
  have hj : j < L.length := by omega
  simp [segC, h, List.getD, List.getElem?_eq_getElem hj]

/-- What 'out' spells when m segments are behind it. -/
def outB (L : List ByteArray) (m : Nat) : ByteArray := fk (L.take m)
theorem outB_succ (L : List ByteArray) (m : Nat) (h : m < L.length) : outB L (m + 1) = kp (outB L m) (L.getD m ByteArray.empty) := fk_take_succ L m h
theorem outB_all (L : List ByteArray) (m : Nat) (h : L.length ≤ m) : outB L m = fk L := by unfold outB; rw [List.take_of_length_le h]
theorem outB_bd (L : List ByteArray) (m : Nat) (h : m < L.length) : (outB L m).size + (L.getD m ByteArray.empty).size + 1 ≤ wt L := by
  have h1 := fk_size (L.take m)
  have h2 := wt_getD L m h
  unfold outB
  omega

theorem row_e {w : World} {base : Nat} {e : TypeId} {v : Value} {o x : ByteArray} (h0 : o.size = 0) (h : w.ownsRow base e 1 v (o.size + x.size) (Lib.strCells o ++ Lib.strCells x)) :
    w.ownsRow base e 1 v (kp o x).size (Lib.strCells (kp o x)) := by
  rw [kp_e o x h0]
  rw [h0, Nat.zero_add, strCells_empty o h0, List.nil_append] at h
  exact h
theorem row_n {w : World} {base : Nat} {e : TypeId} {v : Value} {o x : ByteArray} (h0 : 0 < o.size) (h : w.ownsRow base e 1 v (o.size + 1 + x.size) (Lib.strCells o ++ .int .u8 46 :: Lib.strCells x)) :
    w.ownsRow base e 1 v (kp o x).size (Lib.strCells (kp o x)) := by
  rw [kp_n o x h0, strCells_append, strCells_append, strCells_dot]
  have e1 : (o ++ ⟨#[46]⟩ ++ x).size = o.size + 1 + x.size := by simp only [ByteArray.size_append]; rfl
  rw [e1, List.append_assoc]
  exact h

theorem one46 : ∀ u ∈ [Value.int .u8 46], u.oneCell' = true := by intro u hu; simp at hu; subst hu; rfl

/-- An append to 'out' leaves the row of segments as it was. -/
theorem segs_kept {w w' : World} {B m : Nat} {n c : Nat} {v : Value} {xs ys : List Value} (hs : w.ownsRow B 9 1 (.slice (some ⟨B, 0, none⟩) n c) n xs) (ho : w.ownsRow (B + 1) 5 1 v m ys) (hg : w.grownBy w' v.ownBlock) :
    w'.ownsRow B 9 1 (.slice (some ⟨B, 0, none⟩) n c) n xs :=
  hs.kept hg (.inr fun h => by have := (ho.lt B h.symm).1; omega)
theorem below_out {w0 w w' : World} {B m : Nat} {v : Value} {ys : List Value} (hb : Below B w0 w) (h0 : B ≤ w.heap.size) (ho : w.ownsRow (B + 1) 5 1 v m ys) (hg : w.grownBy w' v.ownBlock) : Below B w0 w' :=
  hb.grown hg h0 fun k h => by have := (ho.lt k h).1; omega

set_option maxHeartbeats 800000 in
theorem dotJoin (a : ByteArray) (ao : Option Addr) (cap : Nat) (ss : List ByteArray) (w : World) (hk : KeysAt w ao ss) (hw : a.size + wt ss ≤ 1048576) :
    Calls Try.prog 9 #[.string a, .slice ao ss.length cap] w fun e w' => e = .returned (.string (fk (a :: ss))) ∧ Below w.heap.size w w' := by
  obtain ⟨i0, hi, hz0, hz1, hz2⟩ := info_parts info9
  obtain ⟨i5, hi5, hy0, hy1, hy2⟩ := info_parts info5
  have hl : ss.length ≤ 1048576 := by have := wt_len ss; omega
  go_enter Try.func9, Try.ntmps9
  go_wp2_with (at_make; refine wpList_make_own _ rfl _ _ 22 rfl w.heap.size 9 i0 (.string ⟨#[]⟩) 1 Try.underlying22 hi hz0 hz1 _ _ _ (ss.length + 1) rfl rfl ?b0 ?b1 ?b2 ?b3 ?_)
  case b0 => omega
  case b1 => rw [hz2]; omega
  case b2 => unfold maxLen; omega
  case b3 => exact Nat.le_refl _
  intro w1 hown1 hgr1
  have hb1 : Below w.heap.size w w1 := (Below.refl _ _).grown hgr1 (Nat.le_refl _) (fun k h => by cases h)
  go_wp2_with (at_builtin; refine wpList_append_fits _ rfl (.tmp 14) (.tmp 16) 22 rfl w.heap.size 9 i0 1 Try.underlying22 hi hz1 w.heap.size 0 (ss.length + 1) [] rfl (hown1.alloc _) ⟨w1.heap.size, 0, none⟩ 1 1 [.string a] rfl rfl ?c1 ?c2 ?c3 ?_)
  case c1 => exact cell_one_new _ _ _
  case c2 => intro u hu; simp at hu; subst hu; rfl
  case c3 => omega
  intro w2 hown2 hgr2
  have hs1 : w.heap.size ≤ w1.heap.size := hgr1.size
  have hb2 : Below w.heap.size w w2 := (hb1.alloc hs1 _).grown hgr2 (by simp; omega) (fun k h => by cases h; exact Nat.le_refl _)
  clear hgr1 hgr2 hown1 hb1
  go_wp2
  go_loopw [5, 6] (fun v j wr => ∃ k : Nat, k ≤ ss.length ∧ j = .int .i64 k ∧ v = .slice (some ⟨w.heap.size, 0, none⟩) (k + 1) (ss.length + 1) ∧
      wr.ownsRow w.heap.size 9 1 (.slice (some ⟨w.heap.size, 0, none⟩) (k + 1) (ss.length + 1)) (k + 1) (segC (a :: ss) (k + 1)) ∧ Below w.heap.size w wr) (fun _ j _ => ss.length - (intOf j).toNat)
  case atStart => exact ⟨0, Nat.zero_le _, rfl, by simp, hown2, hb2⟩
  case round =>
    obtain ⟨k, hk1, rfl, rfl, hown, hb⟩ := hrel
    clear hown2 hb2
    by_cases hlt : k < ss.length
    · obtain ⟨b, off, hao, hbl, hc, hsz⟩ := hk k hlt
      subst hao
      have hcx : wr.cell? ⟨b, off + k, none⟩ = some (.string (ss.getD k ByteArray.empty)) := (hb.cell hbl).trans hc
      have HT : Hid (segC (a :: ss) (k + 1 + 1) = segC (a :: ss) (k + 1) ++ [.string (ss.getD k ByteArray.empty)]) :=
        segC_succ (a :: ss) (k + 1) (by simp only [List.length_cons]; omega)
      clear hk hc
      generalize ss.getD k ByteArray.empty = x at hcx hsz HT
      go_wp2_with (at_builtin; refine wpList_append_fits _ rfl (.tmp 24) (.tmp 29) 22 rfl w.heap.size 9 i0 1 Try.underlying22 hi hz1 w.heap.size (k + 1) (ss.length + 1) _ rfl (hown.alloc _) ⟨wr.heap.size, 0, none⟩ 1 1 [.string x] rfl rfl ?d1 ?d2 ?d3 ?_)
      case d1 => exact cell_one_new _ _ _
      case d2 => intro u hu; simp at hu; subst hu; rfl
      case d3 => omega
      intro w3 hown3 hgr3
      have hsr : w.heap.size ≤ wr.heap.size := hb.size
      have hb3 : Below w.heap.size w w3 := (hb.alloc hsr _).grown hgr3 (by simp; omega) (fun k h => by cases h; exact Nat.le_refl _)
      clear hown hgr3 hcx
      go_wp2
      go_roundw
      case rel => exact ⟨k + 1, by omega, by go_num, rfl, by rw [HT.out]; exact hown3, hb3⟩
      case measure => simp [intOf]; omega
    · have hkk : k = ss.length := by omega
      subst hkk
      go_wp2
      go_loop [7] (fun f => ∃ n : Nat, n ≤ ss.length + 1 ∧ f = .int .i64 n ∧ ∀ i, i < n → ((a :: ss).getD i ByteArray.empty).size = 0) (fun f => ss.length + 1 - (intOf f).toNat)
      case atStart => exact ⟨0, Nat.zero_le _, rfl, fun i h => absurd h (Nat.not_lt_zero _)⟩
      case round =>
        obtain ⟨n, hn, rfl, hE⟩ := hrel
        have HE : Hid (∀ i, i < n → ((a :: ss).getD i ByteArray.empty).size = 0) := hE
        clear hE
        obtain ⟨x, hx⟩ : ∃ x, x = (a :: ss).getD n ByteArray.empty := ⟨_, rfl⟩
        have hcx : n < ss.length + 1 → wr.cell? ⟨w.heap.size, n, none⟩ = some (.string x) := fun h => by
          rw [hown.cellAt n (by omega), hx]; exact segC_get _ _ _ h (by simp)
        have HX : Hid (x = (a :: ss).getD n ByteArray.empty) := hx
        clear hx
        by_cases hc : n < ss.length + 1 ∧ x.size = 0
        · obtain ⟨hlt, hx0⟩ := hc
          have hcx' := hcx hlt
          have hxe := emp_of_size x hx0
          go_wp2
          go_round
          case rel =>
            refine ⟨n + 1, by omega, by go_num, fun i h => ?_⟩
            rcases Nat.lt_or_ge i n with h' | h'
            · exact HE.out i h'
            · rw [show i = n by omega, ← HX.out]; exact hx0
          case measure => simp [intOf]; omega
        · have hxe : n < ss.length + 1 → x.toList.isEmpty = false := fun h => nemp_of_size x (by omega)
          have HF : Hid (n < ss.length + 1 → 0 < x.size) := fun h => by omega
          clear hc
          by_cases hlt : n < ss.length + 1
          all_goals
            go_wp2
            have hBr : w.heap.size + 1 ≤ wr.heap.size := (hown.lt w.heap.size rfl).2
            have hoz : outB (a :: ss) n = ByteArray.empty := eq_empty _ (fk_none (a :: ss) n HE.out)
            go_loopw [8, 9] (fun v j wq => ∃ m : Nat, n ≤ m ∧ m ≤ ss.length + 1 ∧ j = .int .i64 m ∧ wq.ownsRow (w.heap.size + 1) 5 1 v (outB (a :: ss) m).size (Lib.strCells (outB (a :: ss) m)) ∧
                wq.ownsRow w.heap.size 9 1 (.slice (some ⟨w.heap.size, 0, none⟩) (ss.length + 1) (ss.length + 1)) (ss.length + 1) (segC (a :: ss) (ss.length + 1)) ∧ Below w.heap.size w wq ∧ w.heap.size + 1 ≤ wq.heap.size)
              (fun _ j _ => ss.length + 1 - (intOf j).toNat)
            case atStart =>
              refine ⟨n, Nat.le_refl _, hn, rfl, ?_, hown.alloc _, hb.alloc (by omega) _, by simp; omega⟩
              rw [hoz]
              exact World.ownsRow_made wr #[] 0 hBr (by unfold maxLen; omega) rfl
            case round =>
              clear hoz hown hb hcx hxe hlt hBr
              obtain ⟨m, hm0, hm1, rfl, hout, hseg, hb, hBs⟩ := hrel
              by_cases hlt : m < ss.length + 1
              · obtain ⟨y, hy⟩ : ∃ y, y = (a :: ss).getD m ByteArray.empty := ⟨_, rfl⟩
                obtain ⟨o, ho⟩ : ∃ o, o = outB (a :: ss) m := ⟨_, rfl⟩
                have HO : Hid (outB (a :: ss) (m + 1) = kp o y) := by rw [ho, hy]; exact outB_succ _ _ hlt
                have hbd : o.size + y.size + 1 ≤ 1048577 := by
                  have := outB_bd (a :: ss) m hlt
                  rw [wt_cons] at this
                  rw [ho, hy]
                  omega
                have hcy : wr.cell? ⟨w.heap.size, m, none⟩ = some (.string y) := by
                  rw [hseg.cellAt m (by omega), hy]; exact segC_get _ _ _ hlt (by simp)
                rw [← ho] at hout
                by_cases hmn : m = n
                · have HZ : Hid (o.size = 0) := by rw [ho, hmn]; exact fk_none (a :: ss) n HE.out
                  have hmn' : m ≤ n := by omega
                  clear ho hy hmn
                  go_wp2_with (at_builtin; refine Lib.wpList_append_own_string _ rfl (.tmp 58) (.tmp 62) 27 9 rfl (w.heap.size + 1) 5 i5 Try.underlying27 Try.underlying9 hi5 hy0 hy1 hy2 _ _ _ rfl hout y rfl (by unfold maxLen; omega) (by omega) hBs ?_)
                  all_goals
                    intro v4 w4 hout4 hgr4 _
                    have hseg4 := segs_kept hseg hout hgr4
                    have hb4 := below_out hb (by omega) hout hgr4
                    have hz4 : w.heap.size + 1 ≤ w4.heap.size := Nat.le_trans hBs hgr4.size
                    have hout4' := row_e HZ.out hout4
                    clear hout4 hgr4 hout hseg hcy hb
                    go_wp2
                    go_roundw
                    case rel => exact ⟨m + 1, by omega, by omega, by go_num, by rw [HO.out]; exact hout4', hseg4, hb4, hz4⟩
                    case measure => simp [intOf]; omega
                · have HZ : Hid (0 < o.size) := by
                    rw [ho]; exact fk_pos (a :: ss) n m (by simp only [List.length_cons]; omega) (by omega) (by rw [← HX.out]; exact HF.out (by omega))
                  have hmn' : n < m := by omega
                  clear ho hy hmn
                  go_wp2_with (at_builtin; refine wpList_append_own _ rfl (.tmp 55) (.tmp 56) 27 rfl (w.heap.size + 1) 5 i5 (.int .u8 0) 1 1 Try.underlying27 hi5 hy0 hy1 hy2 rfl (by decide) _ _ _ rfl (hout.alloc _) ⟨wr.heap.size, 0, none⟩ 1 1 [.int .u8 46] rfl rfl (cell_one_new _ _ _) one46 (by unfold maxLen; omega) (by omega) (by simp; omega) ?_)
                  all_goals
                    intro v3 w3 hout3 hgr3 _
                    have hseg3 := segs_kept (hseg.alloc _) (hout.alloc _) hgr3
                    have hb3 := below_out (hb.alloc (by omega) _) (by simp; omega) (hout.alloc _) hgr3
                    have hz3 : w.heap.size + 1 ≤ w3.heap.size := Nat.le_trans (by simp; omega) hgr3.size
                    have hcy3 : w3.cell? ⟨w.heap.size, m, none⟩ = some (.string y) := by
                      rw [hseg3.cellAt m (by omega), ← hseg.cellAt m (by omega)]; exact hcy
                    clear hgr3 hout hseg hcy hb
                    go_wp2_with (at_builtin; refine Lib.wpList_append_own_string _ rfl (.tmp 58) (.tmp 62) 27 9 rfl (w.heap.size + 1) 5 i5 Try.underlying27 Try.underlying9 hi5 hy0 hy1 hy2 _ _ _ rfl hout3 y rfl (by unfold maxLen; omega) (by omega) hz3 ?_)
                    intro v4 w4 hout4 hgr4 _
                    have hseg4 := segs_kept hseg3 hout3 hgr4
                    have hb4 := below_out hb3 (by omega) hout3 hgr4
                    have hz4 : w.heap.size + 1 ≤ w4.heap.size := Nat.le_trans hz3 hgr4.size
                    have hout4' := row_n HZ.out hout4
                    clear hout4 hgr4 hout3 hseg3 hcy3 hb3
                    go_wp2
                    go_roundw
                    case rel => exact ⟨m + 1, by omega, by omega, by go_num, by rw [HO.out]; exact hout4', hseg4, hb4, hz4⟩
                    case measure => simp [intOf]; omega
              · have hcv := conv_own (P := Try.prog) (src := 27) (dst := 9) (outB (a :: ss) m) Try.underlying27 Try.underlying5 Try.underlying9 hout
                rw [outB_all (a :: ss) m (by simp only [List.length_cons]; omega)] at hcv
                go_wp2
                go_ret
                exact ⟨rfl, hb⟩
end Go.Proofs.Qxb6619728a
