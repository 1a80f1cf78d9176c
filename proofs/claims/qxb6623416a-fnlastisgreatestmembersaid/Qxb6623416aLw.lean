/-
  'FnLastIsGreatestMember' (function 3): the walk.
-/
import Derived.Test.Qxb6623416aPl
namespace Go.Proofs.Qxb6623416a
open Go.ChangeShapes Go.WideShapes Go.ChangeAt Go.RowKit

set_option maxHeartbeats 2000000 in
theorem lw_ss (s : ByteArray) (fo lo : Option Addr) (n c d : Nat) (F L : List Int) (w : World) (hs : s.size ≤ 1048576) (hn : n ≤ 131072) (hsum : s.size + 8 * n + 8 * n ≤ 1048576) (qf : fo.isNone = false) (ql : lo.isNone = false)
    (hF : RowAt w fo n c F) (hL : RowAt w lo n d L) :
    Calls Try.prog 3 #[.string s, .slice fo n c, .slice lo n d] w fun e w' => e = .returned (.bool true) ∧ Below w.heap.size w w' := by
  obtain ⟨i24, hi24, hy0, hy1, hy2⟩ := info_parts info24
  have q1 : ∀ (w : World) (n c : Nat), (binOp .neq 22 (.slice fo n c) (.slice none 0 0)).run Try.prog w = .ok (.bool true) w := fun w n c => by
    rw [run_neq_slice_nil (P := Try.prog) w 22 24 fo n c Try.underlying22, qf]; rfl
  have q2 : ∀ (w : World) (n c : Nat), (binOp .neq 22 (.slice lo n c) (.slice none 0 0)).run Try.prog w = .ok (.bool true) w := fun w n c => by
    rw [run_neq_slice_nil (P := Try.prog) w 22 24 lo n c Try.underlying22, ql]; rfl
  clear qf ql
  go_enter Try.func3, Try.ntmps3
  go_wp2_with fail
  refine (bytes4 s fo n c lo n d w (by omega) (by omega) (by omega)).mono ?_
  rintro e w' ⟨⟨r, rfl⟩, hw'⟩
  have hw2 : w = w' := hw'.symm
  subst hw2
  clear hw'
  cases r with
  | false =>
    go_wp2
    go_ret
    exact ⟨rfl, Below.refl _ _⟩
  | true =>
    go_wp2_with (at_make; refine wpList_make_room _ rfl _ _ 22 rfl 24 i24 (.int .u64 0) Try.underlying22 hi24 hy0 hy1 rfl _ _ _ _ n n rfl rfl rfl rfl (Nat.le_refl _) (by rw [hy2]; omega) (by omega) ?_)
    intro w1 hg1 _ hb1
    go_wp2_with (refine wpList_copy_splice rfl (.tmp 50) (.tmp 51) 22 22 rfl 24 Try.underlying22 (by rw [hi24]; exact congrArg some hy1) _ _ _ _ _ _ rfl rfl w.heap.size 0 _ 24 hg1.out (nums F) ?c1 ?c2 ?c3 ?c4 w.heap.size w hb1 (Nat.le_refl _) ?_)
    case c1 => rw [nums_length, hF.len]; exact (Nat.min_self _).symm
    case c2 => exact nums_cells hF hb1
    case c3 => have := hF.len; simp only [zeros, nums_length, List.length_replicate]; omega
    case c4 => exact nums_one F
    intro w2 hg2 hb2
    have rowF2 := row_spliced hF hg2.out
    have rowL2 := hL.later (Nat.le_refl _) hb2
    clear hg1 hb1 hg2 q1
    generalize (some { block := w.heap.size, off := 0, spot := none } : Option Addr) = f1 at rowF2
    go_wp2_with (at_make; refine wpList_make_room _ rfl _ _ 22 rfl 24 i24 (.int .u64 0) Try.underlying22 hi24 hy0 hy1 rfl _ _ _ _ n n rfl rfl rfl rfl (Nat.le_refl _) (by rw [hy2]; omega) (by omega) ?_)
    intro w3 hg3 _ hb3
    go_wp2_with (refine wpList_copy_splice rfl (.tmp 59) (.tmp 60) 22 22 rfl 24 Try.underlying22 (by rw [hi24]; exact congrArg some hy1) _ _ _ _ _ _ rfl rfl w2.heap.size 0 _ 24 hg3.out (nums L) ?d1 ?d2 ?d3 ?d4 w2.heap.size w2 hb3 (Nat.le_refl _) ?_)
    case d1 => rw [nums_length, rowL2.len]; exact (Nat.min_self _).symm
    case d2 => exact nums_cells rowL2 hb3
    case d3 => have := rowL2.len; simp only [zeros, nums_length, List.length_replicate]; omega
    case d4 => exact nums_one L
    intro w4 hg4 hb4
    have rowL4 := row_spliced rowL2 hg4.out
    have rowF4 := rowF2.later (Nat.le_refl _) hb4
    have hb5 : Below w.heap.size w w4 := hb2.trans (hb4.mono hb2.size)
    clear hg3 hb3 hg4 hb4 q2
    generalize (some { block := w2.heap.size, off := 0, spot := none } : Option Addr) = l1 at rowL4
    have hbX : Below w.heap.size w w4 := hb5
    have rowFX : RowAt w4 f1 n n F := rowF4
    have rowLX : RowAt w4 l1 n n L := rowL4
    clear rowF2 rowL2 hb2 rowF4 rowL4 hb5 hF hL
    go_wp2
    go_loopw [10] (fun iv wr => Rel1 w f1 n n F l1 n L iv wr) (fun iv _ => n - (intOf iv).toNat)
    case atStart => exact ⟨0, Nat.zero_le _, rfl, rowFX, rowLX, hbX, Good.zero _ _⟩
    case round =>
      clear rowFX rowLX hbX
      obtain ⟨i, hi, rfl, rF, rL, hbel, hgood⟩ := hrel
      by_cases hlt : i < n
      · obtain ⟨b1, o1, e1, hbl1, c1⟩ := rF.at' (by omega)
        obtain ⟨b2, o2, e2, hbl2, c2⟩ := rL.at' (by omega)
        subst e1 e2
        rcases i with _ | p
        · have d1 : wr.cell? ⟨b1, o1, none⟩ = some (.int .u64 (F.getD 0 0)) := by simpa using c1 0 hlt
          have d2 : wr.cell? ⟨b2, o2, none⟩ = some (.int .u64 (L.getD 0 0)) := by simpa using c2 0 hlt
          have hn0 : (0 : Int) < (n : Int) := by omega
          clear c1 c2 hgood
          have HG : Hid (F.getD 0 0 ≤ L.getD 0 0 → Good F L 1) := fun h => Good.one h
          generalize F.getD 0 0 = x at d1 HG
          generalize L.getD 0 0 = y at d2 HG
          by_cases hxy : y < x
          · go_wp2
            go_quiet (fail)
            have hbel3 : Below w.heap.size w (wr.drewN nq) := below_drewN hbel nq
            go_wp2
            go_ret
            exact ⟨rfl, hbel3⟩
          · go_wp2
            go_quiet (fail)
            have rF3 := rF.drewN nq
            have rL3 := rL.drewN nq
            have hbel3 : Below w.heap.size w (wr.drewN nq) := below_drewN hbel nq
            clear d1 d2 rF rL hbel
            generalize wr.drewN nq = w3 at rF3 rL3 hbel3
            go_wp2
            go_roundw
            case rel => exact ⟨1, by omega, by go_num, rF3, rL3, hbel3, HG.out (by omega)⟩
            case measure => simp [intOf]; omega
        · have d1 : wr.cell? ⟨b1, o1 + (p + 1), none⟩ = some (.int .u64 (F.getD (p + 1) 0)) := c1 (p + 1) hlt
          have d2 : wr.cell? ⟨b2, o2 + (p + 1), none⟩ = some (.int .u64 (L.getD (p + 1) 0)) := c2 (p + 1) hlt
          have d3 : wr.cell? ⟨b2, o2 + p, none⟩ = some (.int .u64 (L.getD p 0)) := c2 p (by omega)
          have hp0 : (0 : Int) ≤ (p : Int) := by omega
          have hp1 : (p : Int) + 1 < (n : Int) := by omega
          have hx := rF.bd (p + 1)
          have hz := rL.bd p
          have HG : Hid (F.getD (p + 1) 0 ≤ L.getD (p + 1) 0 → L.getD p 0 < F.getD (p + 1) 0 → Good F L (p + 1 + 1)) := fun h1 h2 => hgood.succ h1 h2
          clear c1 c2 hgood
          generalize F.getD (p + 1) 0 = x at d1 HG hx
          generalize L.getD (p + 1) 0 = y at d2 HG
          generalize L.getD p 0 = z at d3 HG hz
          obtain ⟨hx0, hx1⟩ := hx
          obtain ⟨hz0, hz1⟩ := hz
          by_cases hxy : y < x
          · go_wp2
            go_quiet (fail)
            have hbel3 : Below w.heap.size w (wr.drewN nq) := below_drewN hbel nq
            go_wp2
            go_ret
            exact ⟨rfl, hbel3⟩
          · go_wp2
            go_quiet (fail)
            have rF3 := rF.drewN nq
            have rL3 := rL.drewN nq
            have hbel3 : Below w.heap.size w (wr.drewN nq) := below_drewN hbel nq
            have d13 : (wr.drewN nq).cell? ⟨b1, o1 + (p + 1), none⟩ = some (.int .u64 x) := d1
            have d33 : (wr.drewN nq).cell? ⟨b2, o2 + p, none⟩ = some (.int .u64 z) := d3
            clear d1 d2 d3 rF rL hbel
            generalize wr.drewN nq = w3 at rF3 rL3 hbel3 d13 d33
            by_cases hzx : x ≤ z
            · go_wp2
              go_quiet (fail)
              have hbel4 : Below w.heap.size w (w3.drewN nq) := below_drewN hbel3 nq
              go_wp2
              go_ret
              exact ⟨rfl, hbel4⟩
            · have hzx' : z < x := by omega
              go_wp2
              go_quiet (fail)
              have rF4 := rF3.drewN nq
              have rL4 := rL3.drewN nq
              have hbel4 : Below w.heap.size w (w3.drewN nq) := below_drewN hbel3 nq
              have d14 : (w3.drewN nq).cell? ⟨b1, o1 + (p + 1), none⟩ = some (.int .u64 x) := d13
              have d34 : (w3.drewN nq).cell? ⟨b2, o2 + p, none⟩ = some (.int .u64 z) := d33
              clear d13 d33 rF3 rL3 hbel3
              generalize w3.drewN nq = w4 at rF4 rL4 hbel4 d14 d34
              by_cases htwo : x - z < 2
              · go_wp2
                go_quiet (fail)
                have hbel5 : Below w.heap.size w (w4.drewN nq) := below_drewN hbel4 nq
                go_wp2
                go_ret
                exact ⟨rfl, hbel5⟩
              · go_wp2
                go_quiet (fail)
                have rF5 := rF4.drewN nq
                have rL5 := rL4.drewN nq
                have hbel5 : Below w.heap.size w (w4.drewN nq) := below_drewN hbel4 nq
                clear d14 d34 rF4 rL4 hbel4
                generalize w4.drewN nq = w5 at rF5 rL5 hbel5
                go_wp2
                go_roundw
                case rel => exact ⟨p + 1 + 1, by omega, by go_num, rF5, rL5, hbel5, HG.out (by omega) hzx'⟩
                case measure => simp [intOf]; omega
      · have hin : n = i := by omega
        subst hin
        go_wp2_with fail
        refine (zzSet s f1 l1 n n n F L _ (by omega) rF rL).mono ?_
        rintro e w5 ⟨g, rfl, hiv, hb5⟩
        have hbel5 : Below w.heap.size w w5 := hbel.trans (hb5.mono hbel.size)
        have hgA : ∀ o, g < (w5.alloc o).heap.size := fun o => by have := hiv.lt; simp; omega
        have hbA : ∀ o, Below w5.heap.size w5 (w5.alloc o) := fun o => (Below.refl _ _).alloc (Nat.le_refl _) o
        rcases Nat.eq_zero_or_pos n with hn0 | hn0
        · subst hn0
          clear hiv hgA rF rL hgood hbel hb5
          go_wp2_with fail
          refine (last_none s _ _).mono ?_
          rintro e w7 ⟨rfl, hb7⟩
          have hbel7 : Below w.heap.size w w7 := hbel5.trans (((hbA _).trans (hb7.mono (hbA _).size)).mono hbel5.size)
          go_wp2
          go_ret
          exact ⟨rfl, hbel7⟩
        · obtain ⟨p, hp⟩ : ∃ p, n = p + 1 := ⟨n - 1, by omega⟩
          have HPN : Hid (n = p + 1) := hp
          have hpn : p < n := by omega
          clear hp
          have hcA : ∀ o, (w5.alloc o).cell? ⟨g, p * 2 + 1, none⟩ = some (.int .u64 (L.getD p 0)) := fun o => by
            rw [(hbA o).cell (p := ⟨g, p * 2 + 1, none⟩) hiv.lt]; exact hiv.last p HPN.out
          have rF5 := rF.later (Nat.le_refl _) hb5
          have rL5 := rL.later (Nat.le_refl _) hb5
          have HG : Hid (Good F L (p + 1)) := by have := hgood; rw [HPN.out] at this; exact this
          clear hiv rF rL hgood hbel hb5
          go_wp2_with fail
          refine (last_at s g n p _ _ HPN hn (hgA _) (hcA _)).mono ?_
          rintro e w7 ⟨rfl, hb7⟩
          have hb57 : Below w5.heap.size w5 w7 := (hbA _).trans (hb7.mono (hbA _).size)
          have hbel7 : Below w.heap.size w w7 := hbel5.trans (hb57.mono hbel5.size)
          have rF7 := rF5.later (Nat.le_refl _) hb57
          have rL7 := rL5.later (Nat.le_refl _) hb57
          clear hgA hbA hcA hb7 hb57 rF5 rL5 hbel5
          obtain ⟨b1, o1, e1, hbl1, c1⟩ := rF7.at' (by omega)
          obtain ⟨b2, o2, e2, hbl2, c2⟩ := rL7.at' (by omega)
          subst e1 e2
          have C1 : Hid (∀ i, i < n → w7.cell? ⟨b1, o1 + i, none⟩ = some (.int .u64 (F.getD i 0))) := c1
          have C2 : Hid (∀ i, i < n → w7.cell? ⟨b2, o2 + i, none⟩ = some (.int .u64 (L.getD i 0))) := c2
          clear c1 c2 rF7 rL7
          obtain ⟨r, hr⟩ : ∃ r, r = L.getD p 0 := ⟨_, rfl⟩
          rw [← hr]
          have HR : Hid (r = L.getD p 0) := hr
          clear hr
          go_wp2
          go_loop [13, 14] (fun bv iv => Rel2 n bv iv) (fun _ iv => n - (intOf iv).toNat)
          case atStart => exact ⟨0, false, Nat.zero_le _, rfl, rfl, fun h => by omega⟩
          case round =>
            obtain ⟨i, b, hi2, rfl, rfl, hb0⟩ := hrel
            by_cases hlt2 : i < n
            · have d1 := C1.out i hlt2
              have d2 := C2.out i hlt2
              have hyr : L.getD i 0 ≤ r := by rw [HR.out]; exact HG.out.le_last i (by have := HPN.out; omega)
              have HL : Hid (i = p → F.getD i 0 ≤ r ∧ r ≤ L.getD i 0) := fun h => by
                subst h
                rw [HR.out]
                exact ⟨HG.out.1 _ (by omega), Int.le_refl _⟩
              have hi0 : (0 : Int) ≤ (i : Int) := by omega
              have hi1 : (i : Int) < (n : Int) := by omega
              clear hb0
              generalize F.getD i 0 = x at d1 HL
              generalize L.getD i 0 = y at d2 HL hyr
              by_cases hx : x ≤ r
              · by_cases hy : r ≤ y
                · go_wp2
                  go_round
                  case rel => exact ⟨i + 1, true, by omega, by go_num, rfl, fun _ => rfl⟩
                  case measure => simp [intOf]; omega
                · go_wp2
                  go_round
                  case rel => exact ⟨i + 1, b, by omega, by go_num, rfl, fun h => absurd (HL.out (by have := HPN.out; omega)).2 hy⟩
                  case measure => simp [intOf]; omega
              · go_wp2
                go_round
                case rel => exact ⟨i + 1, b, by omega, by go_num, rfl, fun h => absurd (HL.out (by have := HPN.out; omega)).1 hx⟩
                case measure => simp [intOf]; omega
            · have hbt := hb0 (by omega)
              subst hbt
              go_wp2
              go_ret
              exact ⟨rfl, hbel7⟩

set_option maxHeartbeats 2000000 in
theorem lw_sn (s : ByteArray) (fo lo : Option Addr) (n c d : Nat) (F L : List Int) (w : World) (hs : s.size ≤ 1048576) (hn : n ≤ 131072) (hsum : s.size + 8 * n + 8 * n ≤ 1048576) (qf : fo.isNone = false) (ql : lo.isNone = true)
    (hF : RowAt w fo n c F) (hL : RowAt w lo n d L) :
    Calls Try.prog 3 #[.string s, .slice fo n c, .slice lo n d] w fun e w' => e = .returned (.bool true) ∧ Below w.heap.size w w' := by
  obtain ⟨i24, hi24, hy0, hy1, hy2⟩ := info_parts info24
  have q1 : ∀ (w : World) (n c : Nat), (binOp .neq 22 (.slice fo n c) (.slice none 0 0)).run Try.prog w = .ok (.bool true) w := fun w n c => by
    rw [run_neq_slice_nil (P := Try.prog) w 22 24 fo n c Try.underlying22, qf]; rfl
  have q2 : ∀ (w : World) (n c : Nat), (binOp .neq 22 (.slice lo n c) (.slice none 0 0)).run Try.prog w = .ok (.bool false) w := fun w n c => by
    rw [run_neq_slice_nil (P := Try.prog) w 22 24 lo n c Try.underlying22, ql]; rfl
  clear qf ql
  go_enter Try.func3, Try.ntmps3
  go_wp2_with fail
  refine (bytes4 s fo n c lo n d w (by omega) (by omega) (by omega)).mono ?_
  rintro e w' ⟨⟨r, rfl⟩, hw'⟩
  have hw2 : w = w' := hw'.symm
  subst hw2
  clear hw'
  cases r with
  | false =>
    go_wp2
    go_ret
    exact ⟨rfl, Below.refl _ _⟩
  | true =>
    go_wp2_with (at_make; refine wpList_make_room _ rfl _ _ 22 rfl 24 i24 (.int .u64 0) Try.underlying22 hi24 hy0 hy1 rfl _ _ _ _ n n rfl rfl rfl rfl (Nat.le_refl _) (by rw [hy2]; omega) (by omega) ?_)
    intro w1 hg1 _ hb1
    go_wp2_with (refine wpList_copy_splice rfl (.tmp 50) (.tmp 51) 22 22 rfl 24 Try.underlying22 (by rw [hi24]; exact congrArg some hy1) _ _ _ _ _ _ rfl rfl w.heap.size 0 _ 24 hg1.out (nums F) ?c1 ?c2 ?c3 ?c4 w.heap.size w hb1 (Nat.le_refl _) ?_)
    case c1 => rw [nums_length, hF.len]; exact (Nat.min_self _).symm
    case c2 => exact nums_cells hF hb1
    case c3 => have := hF.len; simp only [zeros, nums_length, List.length_replicate]; omega
    case c4 => exact nums_one F
    intro w2 hg2 hb2
    have rowF2 := row_spliced hF hg2.out
    have rowL2 := hL.later (Nat.le_refl _) hb2
    clear hg1 hb1 hg2 q1
    generalize (some { block := w.heap.size, off := 0, spot := none } : Option Addr) = f1 at rowF2
    have hbX : Below w.heap.size w w2 := hb2
    have rowFX : RowAt w2 f1 n n F := rowF2
    have rowLX : RowAt w2 lo n d L := rowL2
    clear rowF2 rowL2 hb2 hF hL
    go_wp2
    clear q2
    go_loopw [10] (fun iv wr => Rel1 w f1 n n F lo d L iv wr) (fun iv _ => n - (intOf iv).toNat)
    case atStart => exact ⟨0, Nat.zero_le _, rfl, rowFX, rowLX, hbX, Good.zero _ _⟩
    case round =>
      clear rowFX rowLX hbX
      obtain ⟨i, hi, rfl, rF, rL, hbel, hgood⟩ := hrel
      by_cases hlt : i < n
      · obtain ⟨b1, o1, e1, hbl1, c1⟩ := rF.at' (by omega)
        obtain ⟨b2, o2, e2, hbl2, c2⟩ := rL.at' (by omega)
        subst e1 e2
        rcases i with _ | p
        · have d1 : wr.cell? ⟨b1, o1, none⟩ = some (.int .u64 (F.getD 0 0)) := by simpa using c1 0 hlt
          have d2 : wr.cell? ⟨b2, o2, none⟩ = some (.int .u64 (L.getD 0 0)) := by simpa using c2 0 hlt
          have hn0 : (0 : Int) < (n : Int) := by omega
          clear c1 c2 hgood
          have HG : Hid (F.getD 0 0 ≤ L.getD 0 0 → Good F L 1) := fun h => Good.one h
          generalize F.getD 0 0 = x at d1 HG
          generalize L.getD 0 0 = y at d2 HG
          by_cases hxy : y < x
          · go_wp2
            go_quiet (fail)
            have hbel3 : Below w.heap.size w (wr.drewN nq) := below_drewN hbel nq
            go_wp2
            go_ret
            exact ⟨rfl, hbel3⟩
          · go_wp2
            go_quiet (fail)
            have rF3 := rF.drewN nq
            have rL3 := rL.drewN nq
            have hbel3 : Below w.heap.size w (wr.drewN nq) := below_drewN hbel nq
            clear d1 d2 rF rL hbel
            generalize wr.drewN nq = w3 at rF3 rL3 hbel3
            go_wp2
            go_roundw
            case rel => exact ⟨1, by omega, by go_num, rF3, rL3, hbel3, HG.out (by omega)⟩
            case measure => simp [intOf]; omega
        · have d1 : wr.cell? ⟨b1, o1 + (p + 1), none⟩ = some (.int .u64 (F.getD (p + 1) 0)) := c1 (p + 1) hlt
          have d2 : wr.cell? ⟨b2, o2 + (p + 1), none⟩ = some (.int .u64 (L.getD (p + 1) 0)) := c2 (p + 1) hlt
          have d3 : wr.cell? ⟨b2, o2 + p, none⟩ = some (.int .u64 (L.getD p 0)) := c2 p (by omega)
          have hp0 : (0 : Int) ≤ (p : Int) := by omega
          have hp1 : (p : Int) + 1 < (n : Int) := by omega
          have hx := rF.bd (p + 1)
          have hz := rL.bd p
          have HG : Hid (F.getD (p + 1) 0 ≤ L.getD (p + 1) 0 → L.getD p 0 < F.getD (p + 1) 0 → Good F L (p + 1 + 1)) := fun h1 h2 => hgood.succ h1 h2
          clear c1 c2 hgood
          generalize F.getD (p + 1) 0 = x at d1 HG hx
          generalize L.getD (p + 1) 0 = y at d2 HG
          generalize L.getD p 0 = z at d3 HG hz
          obtain ⟨hx0, hx1⟩ := hx
          obtain ⟨hz0, hz1⟩ := hz
          by_cases hxy : y < x
          · go_wp2
            go_quiet (fail)
            have hbel3 : Below w.heap.size w (wr.drewN nq) := below_drewN hbel nq
            go_wp2
            go_ret
            exact ⟨rfl, hbel3⟩
          · go_wp2
            go_quiet (fail)
            have rF3 := rF.drewN nq
            have rL3 := rL.drewN nq
            have hbel3 : Below w.heap.size w (wr.drewN nq) := below_drewN hbel nq
            have d13 : (wr.drewN nq).cell? ⟨b1, o1 + (p + 1), none⟩ = some (.int .u64 x) := d1
            have d33 : (wr.drewN nq).cell? ⟨b2, o2 + p, none⟩ = some (.int .u64 z) := d3
            clear d1 d2 d3 rF rL hbel
            generalize wr.drewN nq = w3 at rF3 rL3 hbel3 d13 d33
            by_cases hzx : x ≤ z
            · go_wp2
              go_quiet (fail)
              have hbel4 : Below w.heap.size w (w3.drewN nq) := below_drewN hbel3 nq
              go_wp2
              go_ret
              exact ⟨rfl, hbel4⟩
            · have hzx' : z < x := by omega
              go_wp2
              go_quiet (fail)
              have rF4 := rF3.drewN nq
              have rL4 := rL3.drewN nq
              have hbel4 : Below w.heap.size w (w3.drewN nq) := below_drewN hbel3 nq
              have d14 : (w3.drewN nq).cell? ⟨b1, o1 + (p + 1), none⟩ = some (.int .u64 x) := d13
              have d34 : (w3.drewN nq).cell? ⟨b2, o2 + p, none⟩ = some (.int .u64 z) := d33
              clear d13 d33 rF3 rL3 hbel3
              generalize w3.drewN nq = w4 at rF4 rL4 hbel4 d14 d34
              by_cases htwo : x - z < 2
              · go_wp2
                go_quiet (fail)
                have hbel5 : Below w.heap.size w (w4.drewN nq) := below_drewN hbel4 nq
                go_wp2
                go_ret
                exact ⟨rfl, hbel5⟩
              · go_wp2
                go_quiet (fail)
                have rF5 := rF4.drewN nq
                have rL5 := rL4.drewN nq
                have hbel5 : Below w.heap.size w (w4.drewN nq) := below_drewN hbel4 nq
                clear d14 d34 rF4 rL4 hbel4
                generalize w4.drewN nq = w5 at rF5 rL5 hbel5
                go_wp2
                go_roundw
                case rel => exact ⟨p + 1 + 1, by omega, by go_num, rF5, rL5, hbel5, HG.out (by omega) hzx'⟩
                case measure => simp [intOf]; omega
      · have hin : n = i := by omega
        subst hin
        go_wp2_with fail
        refine (zzSet s f1 lo n n d F L _ (by omega) rF rL).mono ?_
        rintro e w5 ⟨g, rfl, hiv, hb5⟩
        have hbel5 : Below w.heap.size w w5 := hbel.trans (hb5.mono hbel.size)
        have hgA : ∀ o, g < (w5.alloc o).heap.size := fun o => by have := hiv.lt; simp; omega
        have hbA : ∀ o, Below w5.heap.size w5 (w5.alloc o) := fun o => (Below.refl _ _).alloc (Nat.le_refl _) o
        rcases Nat.eq_zero_or_pos n with hn0 | hn0
        · subst hn0
          clear hiv hgA rF rL hgood hbel hb5
          go_wp2_with fail
          refine (last_none s _ _).mono ?_
          rintro e w7 ⟨rfl, hb7⟩
          have hbel7 : Below w.heap.size w w7 := hbel5.trans (((hbA _).trans (hb7.mono (hbA _).size)).mono hbel5.size)
          go_wp2
          go_ret
          exact ⟨rfl, hbel7⟩
        · obtain ⟨p, hp⟩ : ∃ p, n = p + 1 := ⟨n - 1, by omega⟩
          have HPN : Hid (n = p + 1) := hp
          have hpn : p < n := by omega
          clear hp
          have hcA : ∀ o, (w5.alloc o).cell? ⟨g, p * 2 + 1, none⟩ = some (.int .u64 (L.getD p 0)) := fun o => by
            rw [(hbA o).cell (p := ⟨g, p * 2 + 1, none⟩) hiv.lt]; exact hiv.last p HPN.out
          have rF5 := rF.later (Nat.le_refl _) hb5
          have rL5 := rL.later (Nat.le_refl _) hb5
          have HG : Hid (Good F L (p + 1)) := by have := hgood; rw [HPN.out] at this; exact this
          clear hiv rF rL hgood hbel hb5
          go_wp2_with fail
          refine (last_at s g n p _ _ HPN hn (hgA _) (hcA _)).mono ?_
          rintro e w7 ⟨rfl, hb7⟩
          have hb57 : Below w5.heap.size w5 w7 := (hbA _).trans (hb7.mono (hbA _).size)
          have hbel7 : Below w.heap.size w w7 := hbel5.trans (hb57.mono hbel5.size)
          have rF7 := rF5.later (Nat.le_refl _) hb57
          have rL7 := rL5.later (Nat.le_refl _) hb57
          clear hgA hbA hcA hb7 hb57 rF5 rL5 hbel5
          obtain ⟨b1, o1, e1, hbl1, c1⟩ := rF7.at' (by omega)
          obtain ⟨b2, o2, e2, hbl2, c2⟩ := rL7.at' (by omega)
          subst e1 e2
          have C1 : Hid (∀ i, i < n → w7.cell? ⟨b1, o1 + i, none⟩ = some (.int .u64 (F.getD i 0))) := c1
          have C2 : Hid (∀ i, i < n → w7.cell? ⟨b2, o2 + i, none⟩ = some (.int .u64 (L.getD i 0))) := c2
          clear c1 c2 rF7 rL7
          obtain ⟨r, hr⟩ : ∃ r, r = L.getD p 0 := ⟨_, rfl⟩
          rw [← hr]
          have HR : Hid (r = L.getD p 0) := hr
          clear hr
          go_wp2
          go_loop [13, 14] (fun bv iv => Rel2 n bv iv) (fun _ iv => n - (intOf iv).toNat)
          case atStart => exact ⟨0, false, Nat.zero_le _, rfl, rfl, fun h => by omega⟩
          case round =>
            obtain ⟨i, b, hi2, rfl, rfl, hb0⟩ := hrel
            by_cases hlt2 : i < n
            · have d1 := C1.out i hlt2
              have d2 := C2.out i hlt2
              have hyr : L.getD i 0 ≤ r := by rw [HR.out]; exact HG.out.le_last i (by have := HPN.out; omega)
              have HL : Hid (i = p → F.getD i 0 ≤ r ∧ r ≤ L.getD i 0) := fun h => by
                subst h
                rw [HR.out]
                exact ⟨HG.out.1 _ (by omega), Int.le_refl _⟩
              have hi0 : (0 : Int) ≤ (i : Int) := by omega
              have hi1 : (i : Int) < (n : Int) := by omega
              clear hb0
              generalize F.getD i 0 = x at d1 HL
              generalize L.getD i 0 = y at d2 HL hyr
              by_cases hx : x ≤ r
              · by_cases hy : r ≤ y
                · go_wp2
                  go_round
                  case rel => exact ⟨i + 1, true, by omega, by go_num, rfl, fun _ => rfl⟩
                  case measure => simp [intOf]; omega
                · go_wp2
                  go_round
                  case rel => exact ⟨i + 1, b, by omega, by go_num, rfl, fun h => absurd (HL.out (by have := HPN.out; omega)).2 hy⟩
                  case measure => simp [intOf]; omega
              · go_wp2
                go_round
                case rel => exact ⟨i + 1, b, by omega, by go_num, rfl, fun h => absurd (HL.out (by have := HPN.out; omega)).1 hx⟩
                case measure => simp [intOf]; omega
            · have hbt := hb0 (by omega)
              subst hbt
              go_wp2
              go_ret
              exact ⟨rfl, hbel7⟩

set_option maxHeartbeats 2000000 in
theorem lw_ns (s : ByteArray) (fo lo : Option Addr) (n c d : Nat) (F L : List Int) (w : World) (hs : s.size ≤ 1048576) (hn : n ≤ 131072) (hsum : s.size + 8 * n + 8 * n ≤ 1048576) (qf : fo.isNone = true) (ql : lo.isNone = false)
    (hF : RowAt w fo n c F) (hL : RowAt w lo n d L) :
    Calls Try.prog 3 #[.string s, .slice fo n c, .slice lo n d] w fun e w' => e = .returned (.bool true) ∧ Below w.heap.size w w' := by
  obtain ⟨i24, hi24, hy0, hy1, hy2⟩ := info_parts info24
  have q1 : ∀ (w : World) (n c : Nat), (binOp .neq 22 (.slice fo n c) (.slice none 0 0)).run Try.prog w = .ok (.bool false) w := fun w n c => by
    rw [run_neq_slice_nil (P := Try.prog) w 22 24 fo n c Try.underlying22, qf]; rfl
  have q2 : ∀ (w : World) (n c : Nat), (binOp .neq 22 (.slice lo n c) (.slice none 0 0)).run Try.prog w = .ok (.bool true) w := fun w n c => by
    rw [run_neq_slice_nil (P := Try.prog) w 22 24 lo n c Try.underlying22, ql]; rfl
  clear qf ql
  go_enter Try.func3, Try.ntmps3
  go_wp2_with fail
  refine (bytes4 s fo n c lo n d w (by omega) (by omega) (by omega)).mono ?_
  rintro e w' ⟨⟨r, rfl⟩, hw'⟩
  have hw2 : w = w' := hw'.symm
  subst hw2
  clear hw'
  cases r with
  | false =>
    go_wp2
    go_ret
    exact ⟨rfl, Below.refl _ _⟩
  | true =>
    go_wp2_with (at_make; refine wpList_make_room _ rfl _ _ 22 rfl 24 i24 (.int .u64 0) Try.underlying22 hi24 hy0 hy1 rfl _ _ _ _ n n rfl rfl rfl rfl (Nat.le_refl _) (by rw [hy2]; omega) (by omega) ?_)
    intro w3 hg3 _ hb3
    go_wp2_with (refine wpList_copy_splice rfl (.tmp 59) (.tmp 60) 22 22 rfl 24 Try.underlying22 (by rw [hi24]; exact congrArg some hy1) _ _ _ _ _ _ rfl rfl w.heap.size 0 _ 24 hg3.out (nums L) ?d1 ?d2 ?d3 ?d4 w.heap.size w hb3 (Nat.le_refl _) ?_)
    case d1 => rw [nums_length, hL.len]; exact (Nat.min_self _).symm
    case d2 => exact nums_cells hL hb3
    case d3 => have := hL.len; simp only [zeros, nums_length, List.length_replicate]; omega
    case d4 => exact nums_one L
    intro w4 hg4 hb4
    have rowL4 := row_spliced hL hg4.out
    have rowF4 := hF.later (Nat.le_refl _) hb4
    have hb5 : Below w.heap.size w w4 := (Below.refl w.heap.size w).trans (hb4.mono (Below.refl w.heap.size w).size)
    clear hg3 hb3 hg4 hb4 q2
    generalize (some { block := w.heap.size, off := 0, spot := none } : Option Addr) = l1 at rowL4
    have hbX : Below w.heap.size w w4 := hb5
    have rowFX : RowAt w4 fo n c F := rowF4
    have rowLX : RowAt w4 l1 n n L := rowL4
    clear rowF4 rowL4 hb5 hF hL
    go_wp2
    clear q1
    go_loopw [10] (fun iv wr => Rel1 w fo n c F l1 n L iv wr) (fun iv _ => n - (intOf iv).toNat)
    case atStart => exact ⟨0, Nat.zero_le _, rfl, rowFX, rowLX, hbX, Good.zero _ _⟩
    case round =>
      clear rowFX rowLX hbX
      obtain ⟨i, hi, rfl, rF, rL, hbel, hgood⟩ := hrel
      by_cases hlt : i < n
      · obtain ⟨b1, o1, e1, hbl1, c1⟩ := rF.at' (by omega)
        obtain ⟨b2, o2, e2, hbl2, c2⟩ := rL.at' (by omega)
        subst e1 e2
        rcases i with _ | p
        · have d1 : wr.cell? ⟨b1, o1, none⟩ = some (.int .u64 (F.getD 0 0)) := by simpa using c1 0 hlt
          have d2 : wr.cell? ⟨b2, o2, none⟩ = some (.int .u64 (L.getD 0 0)) := by simpa using c2 0 hlt
          have hn0 : (0 : Int) < (n : Int) := by omega
          clear c1 c2 hgood
          have HG : Hid (F.getD 0 0 ≤ L.getD 0 0 → Good F L 1) := fun h => Good.one h
          generalize F.getD 0 0 = x at d1 HG
          generalize L.getD 0 0 = y at d2 HG
          by_cases hxy : y < x
          · go_wp2
            go_quiet (fail)
            have hbel3 : Below w.heap.size w (wr.drewN nq) := below_drewN hbel nq
            go_wp2
            go_ret
            exact ⟨rfl, hbel3⟩
          · go_wp2
            go_quiet (fail)
            have rF3 := rF.drewN nq
            have rL3 := rL.drewN nq
            have hbel3 : Below w.heap.size w (wr.drewN nq) := below_drewN hbel nq
            clear d1 d2 rF rL hbel
            generalize wr.drewN nq = w3 at rF3 rL3 hbel3
            go_wp2
            go_roundw
            case rel => exact ⟨1, by omega, by go_num, rF3, rL3, hbel3, HG.out (by omega)⟩
            case measure => simp [intOf]; omega
        · have d1 : wr.cell? ⟨b1, o1 + (p + 1), none⟩ = some (.int .u64 (F.getD (p + 1) 0)) := c1 (p + 1) hlt
          have d2 : wr.cell? ⟨b2, o2 + (p + 1), none⟩ = some (.int .u64 (L.getD (p + 1) 0)) := c2 (p + 1) hlt
          have d3 : wr.cell? ⟨b2, o2 + p, none⟩ = some (.int .u64 (L.getD p 0)) := c2 p (by omega)
          have hp0 : (0 : Int) ≤ (p : Int) := by omega
          have hp1 : (p : Int) + 1 < (n : Int) := by omega
          have hx := rF.bd (p + 1)
          have hz := rL.bd p
          have HG : Hid (F.getD (p + 1) 0 ≤ L.getD (p + 1) 0 → L.getD p 0 < F.getD (p + 1) 0 → Good F L (p + 1 + 1)) := fun h1 h2 => hgood.succ h1 h2
          clear c1 c2 hgood
          generalize F.getD (p + 1) 0 = x at d1 HG hx
          generalize L.getD (p + 1) 0 = y at d2 HG
          generalize L.getD p 0 = z at d3 HG hz
          obtain ⟨hx0, hx1⟩ := hx
          obtain ⟨hz0, hz1⟩ := hz
          by_cases hxy : y < x
          · go_wp2
            go_quiet (fail)
            have hbel3 : Below w.heap.size w (wr.drewN nq) := below_drewN hbel nq
            go_wp2
            go_ret
            exact ⟨rfl, hbel3⟩
          · go_wp2
            go_quiet (fail)
            have rF3 := rF.drewN nq
            have rL3 := rL.drewN nq
            have hbel3 : Below w.heap.size w (wr.drewN nq) := below_drewN hbel nq
            have d13 : (wr.drewN nq).cell? ⟨b1, o1 + (p + 1), none⟩ = some (.int .u64 x) := d1
            have d33 : (wr.drewN nq).cell? ⟨b2, o2 + p, none⟩ = some (.int .u64 z) := d3
            clear d1 d2 d3 rF rL hbel
            generalize wr.drewN nq = w3 at rF3 rL3 hbel3 d13 d33
            by_cases hzx : x ≤ z
            · go_wp2
              go_quiet (fail)
              have hbel4 : Below w.heap.size w (w3.drewN nq) := below_drewN hbel3 nq
              go_wp2
              go_ret
              exact ⟨rfl, hbel4⟩
            · have hzx' : z < x := by omega
              go_wp2
              go_quiet (fail)
              have rF4 := rF3.drewN nq
              have rL4 := rL3.drewN nq
              have hbel4 : Below w.heap.size w (w3.drewN nq) := below_drewN hbel3 nq
              have d14 : (w3.drewN nq).cell? ⟨b1, o1 + (p + 1), none⟩ = some (.int .u64 x) := d13
              have d34 : (w3.drewN nq).cell? ⟨b2, o2 + p, none⟩ = some (.int .u64 z) := d33
              clear d13 d33 rF3 rL3 hbel3
              generalize w3.drewN nq = w4 at rF4 rL4 hbel4 d14 d34
              by_cases htwo : x - z < 2
              · go_wp2
                go_quiet (fail)
                have hbel5 : Below w.heap.size w (w4.drewN nq) := below_drewN hbel4 nq
                go_wp2
                go_ret
                exact ⟨rfl, hbel5⟩
              · go_wp2
                go_quiet (fail)
                have rF5 := rF4.drewN nq
                have rL5 := rL4.drewN nq
                have hbel5 : Below w.heap.size w (w4.drewN nq) := below_drewN hbel4 nq
                clear d14 d34 rF4 rL4 hbel4
                generalize w4.drewN nq = w5 at rF5 rL5 hbel5
                go_wp2
                go_roundw
                case rel => exact ⟨p + 1 + 1, by omega, by go_num, rF5, rL5, hbel5, HG.out (by omega) hzx'⟩
                case measure => simp [intOf]; omega
      · have hin : n = i := by omega
        subst hin
        go_wp2_with fail
        refine (zzSet s fo l1 n c n F L _ (by omega) rF rL).mono ?_
        rintro e w5 ⟨g, rfl, hiv, hb5⟩
        have hbel5 : Below w.heap.size w w5 := hbel.trans (hb5.mono hbel.size)
        have hgA : ∀ o, g < (w5.alloc o).heap.size := fun o => by have := hiv.lt; simp; omega
        have hbA : ∀ o, Below w5.heap.size w5 (w5.alloc o) := fun o => (Below.refl _ _).alloc (Nat.le_refl _) o
        rcases Nat.eq_zero_or_pos n with hn0 | hn0
        · subst hn0
          clear hiv hgA rF rL hgood hbel hb5
          go_wp2_with fail
          refine (last_none s _ _).mono ?_
          rintro e w7 ⟨rfl, hb7⟩
          have hbel7 : Below w.heap.size w w7 := hbel5.trans (((hbA _).trans (hb7.mono (hbA _).size)).mono hbel5.size)
          go_wp2
          go_ret
          exact ⟨rfl, hbel7⟩
        · obtain ⟨p, hp⟩ : ∃ p, n = p + 1 := ⟨n - 1, by omega⟩
          have HPN : Hid (n = p + 1) := hp
          have hpn : p < n := by omega
          clear hp
          have hcA : ∀ o, (w5.alloc o).cell? ⟨g, p * 2 + 1, none⟩ = some (.int .u64 (L.getD p 0)) := fun o => by
            rw [(hbA o).cell (p := ⟨g, p * 2 + 1, none⟩) hiv.lt]; exact hiv.last p HPN.out
          have rF5 := rF.later (Nat.le_refl _) hb5
          have rL5 := rL.later (Nat.le_refl _) hb5
          have HG : Hid (Good F L (p + 1)) := by have := hgood; rw [HPN.out] at this; exact this
          clear hiv rF rL hgood hbel hb5
          go_wp2_with fail
          refine (last_at s g n p _ _ HPN hn (hgA _) (hcA _)).mono ?_
          rintro e w7 ⟨rfl, hb7⟩
          have hb57 : Below w5.heap.size w5 w7 := (hbA _).trans (hb7.mono (hbA _).size)
          have hbel7 : Below w.heap.size w w7 := hbel5.trans (hb57.mono hbel5.size)
          have rF7 := rF5.later (Nat.le_refl _) hb57
          have rL7 := rL5.later (Nat.le_refl _) hb57
          clear hgA hbA hcA hb7 hb57 rF5 rL5 hbel5
          obtain ⟨b1, o1, e1, hbl1, c1⟩ := rF7.at' (by omega)
          obtain ⟨b2, o2, e2, hbl2, c2⟩ := rL7.at' (by omega)
          subst e1 e2
          have C1 : Hid (∀ i, i < n → w7.cell? ⟨b1, o1 + i, none⟩ = some (.int .u64 (F.getD i 0))) := c1
          have C2 : Hid (∀ i, i < n → w7.cell? ⟨b2, o2 + i, none⟩ = some (.int .u64 (L.getD i 0))) := c2
          clear c1 c2 rF7 rL7
          obtain ⟨r, hr⟩ : ∃ r, r = L.getD p 0 := ⟨_, rfl⟩
          rw [← hr]
          have HR : Hid (r = L.getD p 0) := hr
          clear hr
          go_wp2
          go_loop [13, 14] (fun bv iv => Rel2 n bv iv) (fun _ iv => n - (intOf iv).toNat)
          case atStart => exact ⟨0, false, Nat.zero_le _, rfl, rfl, fun h => by omega⟩
          case round =>
            obtain ⟨i, b, hi2, rfl, rfl, hb0⟩ := hrel
            by_cases hlt2 : i < n
            · have d1 := C1.out i hlt2
              have d2 := C2.out i hlt2
              have hyr : L.getD i 0 ≤ r := by rw [HR.out]; exact HG.out.le_last i (by have := HPN.out; omega)
              have HL : Hid (i = p → F.getD i 0 ≤ r ∧ r ≤ L.getD i 0) := fun h => by
                subst h
                rw [HR.out]
                exact ⟨HG.out.1 _ (by omega), Int.le_refl _⟩
              have hi0 : (0 : Int) ≤ (i : Int) := by omega
              have hi1 : (i : Int) < (n : Int) := by omega
              clear hb0
              generalize F.getD i 0 = x at d1 HL
              generalize L.getD i 0 = y at d2 HL hyr
              by_cases hx : x ≤ r
              · by_cases hy : r ≤ y
                · go_wp2
                  go_round
                  case rel => exact ⟨i + 1, true, by omega, by go_num, rfl, fun _ => rfl⟩
                  case measure => simp [intOf]; omega
                · go_wp2
                  go_round
                  case rel => exact ⟨i + 1, b, by omega, by go_num, rfl, fun h => absurd (HL.out (by have := HPN.out; omega)).2 hy⟩
                  case measure => simp [intOf]; omega
              · go_wp2
                go_round
                case rel => exact ⟨i + 1, b, by omega, by go_num, rfl, fun h => absurd (HL.out (by have := HPN.out; omega)).1 hx⟩
                case measure => simp [intOf]; omega
            · have hbt := hb0 (by omega)
              subst hbt
              go_wp2
              go_ret
              exact ⟨rfl, hbel7⟩

set_option maxHeartbeats 2000000 in
theorem lw_nn (s : ByteArray) (fo lo : Option Addr) (n c d : Nat) (F L : List Int) (w : World) (hs : s.size ≤ 1048576) (hn : n ≤ 131072) (hsum : s.size + 8 * n + 8 * n ≤ 1048576) (qf : fo.isNone = true) (ql : lo.isNone = true)
    (hF : RowAt w fo n c F) (hL : RowAt w lo n d L) :
    Calls Try.prog 3 #[.string s, .slice fo n c, .slice lo n d] w fun e w' => e = .returned (.bool true) ∧ Below w.heap.size w w' := by
  obtain ⟨i24, hi24, hy0, hy1, hy2⟩ := info_parts info24
  have q1 : ∀ (w : World) (n c : Nat), (binOp .neq 22 (.slice fo n c) (.slice none 0 0)).run Try.prog w = .ok (.bool false) w := fun w n c => by
    rw [run_neq_slice_nil (P := Try.prog) w 22 24 fo n c Try.underlying22, qf]; rfl
  have q2 : ∀ (w : World) (n c : Nat), (binOp .neq 22 (.slice lo n c) (.slice none 0 0)).run Try.prog w = .ok (.bool false) w := fun w n c => by
    rw [run_neq_slice_nil (P := Try.prog) w 22 24 lo n c Try.underlying22, ql]; rfl
  clear qf ql
  go_enter Try.func3, Try.ntmps3
  go_wp2_with fail
  refine (bytes4 s fo n c lo n d w (by omega) (by omega) (by omega)).mono ?_
  rintro e w' ⟨⟨r, rfl⟩, hw'⟩
  have hw2 : w = w' := hw'.symm
  subst hw2
  clear hw'
  cases r with
  | false =>
    go_wp2
    go_ret
    exact ⟨rfl, Below.refl _ _⟩
  | true =>
    have hbX : Below w.heap.size w w := (Below.refl w.heap.size w)
    have rowFX : RowAt w fo n c F := hF
    have rowLX : RowAt w lo n d L := hL
    clear hF hL
    go_wp2
    clear q1 q2
    go_loopw [10] (fun iv wr => Rel1 w fo n c F lo d L iv wr) (fun iv _ => n - (intOf iv).toNat)
    case atStart => exact ⟨0, Nat.zero_le _, rfl, rowFX, rowLX, hbX, Good.zero _ _⟩
    case round =>
      clear rowFX rowLX hbX
      obtain ⟨i, hi, rfl, rF, rL, hbel, hgood⟩ := hrel
      by_cases hlt : i < n
      · obtain ⟨b1, o1, e1, hbl1, c1⟩ := rF.at' (by omega)
        obtain ⟨b2, o2, e2, hbl2, c2⟩ := rL.at' (by omega)
        subst e1 e2
        rcases i with _ | p
        · have d1 : wr.cell? ⟨b1, o1, none⟩ = some (.int .u64 (F.getD 0 0)) := by simpa using c1 0 hlt
          have d2 : wr.cell? ⟨b2, o2, none⟩ = some (.int .u64 (L.getD 0 0)) := by simpa using c2 0 hlt
          have hn0 : (0 : Int) < (n : Int) := by omega
          clear c1 c2 hgood
          have HG : Hid (F.getD 0 0 ≤ L.getD 0 0 → Good F L 1) := fun h => Good.one h
          generalize F.getD 0 0 = x at d1 HG
          generalize L.getD 0 0 = y at d2 HG
          by_cases hxy : y < x
          · go_wp2
            go_quiet (fail)
            have hbel3 : Below w.heap.size w (wr.drewN nq) := below_drewN hbel nq
            go_wp2
            go_ret
            exact ⟨rfl, hbel3⟩
          · go_wp2
            go_quiet (fail)
            have rF3 := rF.drewN nq
            have rL3 := rL.drewN nq
            have hbel3 : Below w.heap.size w (wr.drewN nq) := below_drewN hbel nq
            clear d1 d2 rF rL hbel
            generalize wr.drewN nq = w3 at rF3 rL3 hbel3
            go_wp2
            go_roundw
            case rel => exact ⟨1, by omega, by go_num, rF3, rL3, hbel3, HG.out (by omega)⟩
            case measure => simp [intOf]; omega
        · have d1 : wr.cell? ⟨b1, o1 + (p + 1), none⟩ = some (.int .u64 (F.getD (p + 1) 0)) := c1 (p + 1) hlt
          have d2 : wr.cell? ⟨b2, o2 + (p + 1), none⟩ = some (.int .u64 (L.getD (p + 1) 0)) := c2 (p + 1) hlt
          have d3 : wr.cell? ⟨b2, o2 + p, none⟩ = some (.int .u64 (L.getD p 0)) := c2 p (by omega)
          have hp0 : (0 : Int) ≤ (p : Int) := by omega
          have hp1 : (p : Int) + 1 < (n : Int) := by omega
          have hx := rF.bd (p + 1)
          have hz := rL.bd p
          have HG : Hid (F.getD (p + 1) 0 ≤ L.getD (p + 1) 0 → L.getD p 0 < F.getD (p + 1) 0 → Good F L (p + 1 + 1)) := fun h1 h2 => hgood.succ h1 h2
          clear c1 c2 hgood
          generalize F.getD (p + 1) 0 = x at d1 HG hx
          generalize L.getD (p + 1) 0 = y at d2 HG
          generalize L.getD p 0 = z at d3 HG hz
          obtain ⟨hx0, hx1⟩ := hx
          obtain ⟨hz0, hz1⟩ := hz
          by_cases hxy : y < x
          · go_wp2
            go_quiet (fail)
            have hbel3 : Below w.heap.size w (wr.drewN nq) := below_drewN hbel nq
            go_wp2
            go_ret
            exact ⟨rfl, hbel3⟩
          · go_wp2
            go_quiet (fail)
            have rF3 := rF.drewN nq
            have rL3 := rL.drewN nq
            have hbel3 : Below w.heap.size w (wr.drewN nq) := below_drewN hbel nq
            have d13 : (wr.drewN nq).cell? ⟨b1, o1 + (p + 1), none⟩ = some (.int .u64 x) := d1
            have d33 : (wr.drewN nq).cell? ⟨b2, o2 + p, none⟩ = some (.int .u64 z) := d3
            clear d1 d2 d3 rF rL hbel
            generalize wr.drewN nq = w3 at rF3 rL3 hbel3 d13 d33
            by_cases hzx : x ≤ z
            · go_wp2
              go_quiet (fail)
              have hbel4 : Below w.heap.size w (w3.drewN nq) := below_drewN hbel3 nq
              go_wp2
              go_ret
              exact ⟨rfl, hbel4⟩
            · have hzx' : z < x := by omega
              go_wp2
              go_quiet (fail)
              have rF4 := rF3.drewN nq
              have rL4 := rL3.drewN nq
              have hbel4 : Below w.heap.size w (w3.drewN nq) := below_drewN hbel3 nq
              have d14 : (w3.drewN nq).cell? ⟨b1, o1 + (p + 1), none⟩ = some (.int .u64 x) := d13
              have d34 : (w3.drewN nq).cell? ⟨b2, o2 + p, none⟩ = some (.int .u64 z) := d33
              clear d13 d33 rF3 rL3 hbel3
              generalize w3.drewN nq = w4 at rF4 rL4 hbel4 d14 d34
              by_cases htwo : x - z < 2
              · go_wp2
                go_quiet (fail)
                have hbel5 : Below w.heap.size w (w4.drewN nq) := below_drewN hbel4 nq
                go_wp2
                go_ret
                exact ⟨rfl, hbel5⟩
              · go_wp2
                go_quiet (fail)
                have rF5 := rF4.drewN nq
                have rL5 := rL4.drewN nq
                have hbel5 : Below w.heap.size w (w4.drewN nq) := below_drewN hbel4 nq
                clear d14 d34 rF4 rL4 hbel4
                generalize w4.drewN nq = w5 at rF5 rL5 hbel5
                go_wp2
                go_roundw
                case rel => exact ⟨p + 1 + 1, by omega, by go_num, rF5, rL5, hbel5, HG.out (by omega) hzx'⟩
                case measure => simp [intOf]; omega
      · have hin : n = i := by omega
        subst hin
        go_wp2_with fail
        refine (zzSet s fo lo n c d F L _ (by omega) rF rL).mono ?_
        rintro e w5 ⟨g, rfl, hiv, hb5⟩
        have hbel5 : Below w.heap.size w w5 := hbel.trans (hb5.mono hbel.size)
        have hgA : ∀ o, g < (w5.alloc o).heap.size := fun o => by have := hiv.lt; simp; omega
        have hbA : ∀ o, Below w5.heap.size w5 (w5.alloc o) := fun o => (Below.refl _ _).alloc (Nat.le_refl _) o
        rcases Nat.eq_zero_or_pos n with hn0 | hn0
        · subst hn0
          clear hiv hgA rF rL hgood hbel hb5
          go_wp2_with fail
          refine (last_none s _ _).mono ?_
          rintro e w7 ⟨rfl, hb7⟩
          have hbel7 : Below w.heap.size w w7 := hbel5.trans (((hbA _).trans (hb7.mono (hbA _).size)).mono hbel5.size)
          go_wp2
          go_ret
          exact ⟨rfl, hbel7⟩
        · obtain ⟨p, hp⟩ : ∃ p, n = p + 1 := ⟨n - 1, by omega⟩
          have HPN : Hid (n = p + 1) := hp
          have hpn : p < n := by omega
          clear hp
          have hcA : ∀ o, (w5.alloc o).cell? ⟨g, p * 2 + 1, none⟩ = some (.int .u64 (L.getD p 0)) := fun o => by
            rw [(hbA o).cell (p := ⟨g, p * 2 + 1, none⟩) hiv.lt]; exact hiv.last p HPN.out
          have rF5 := rF.later (Nat.le_refl _) hb5
          have rL5 := rL.later (Nat.le_refl _) hb5
          have HG : Hid (Good F L (p + 1)) := by have := hgood; rw [HPN.out] at this; exact this
          clear hiv rF rL hgood hbel hb5
          go_wp2_with fail
          refine (last_at s g n p _ _ HPN hn (hgA _) (hcA _)).mono ?_
          rintro e w7 ⟨rfl, hb7⟩
          have hb57 : Below w5.heap.size w5 w7 := (hbA _).trans (hb7.mono (hbA _).size)
          have hbel7 : Below w.heap.size w w7 := hbel5.trans (hb57.mono hbel5.size)
          have rF7 := rF5.later (Nat.le_refl _) hb57
          have rL7 := rL5.later (Nat.le_refl _) hb57
          clear hgA hbA hcA hb7 hb57 rF5 rL5 hbel5
          obtain ⟨b1, o1, e1, hbl1, c1⟩ := rF7.at' (by omega)
          obtain ⟨b2, o2, e2, hbl2, c2⟩ := rL7.at' (by omega)
          subst e1 e2
          have C1 : Hid (∀ i, i < n → w7.cell? ⟨b1, o1 + i, none⟩ = some (.int .u64 (F.getD i 0))) := c1
          have C2 : Hid (∀ i, i < n → w7.cell? ⟨b2, o2 + i, none⟩ = some (.int .u64 (L.getD i 0))) := c2
          clear c1 c2 rF7 rL7
          obtain ⟨r, hr⟩ : ∃ r, r = L.getD p 0 := ⟨_, rfl⟩
          rw [← hr]
          have HR : Hid (r = L.getD p 0) := hr
          clear hr
          go_wp2
          go_loop [13, 14] (fun bv iv => Rel2 n bv iv) (fun _ iv => n - (intOf iv).toNat)
          case atStart => exact ⟨0, false, Nat.zero_le _, rfl, rfl, fun h => by omega⟩
          case round =>
            obtain ⟨i, b, hi2, rfl, rfl, hb0⟩ := hrel
            by_cases hlt2 : i < n
            · have d1 := C1.out i hlt2
              have d2 := C2.out i hlt2
              have hyr : L.getD i 0 ≤ r := by rw [HR.out]; exact HG.out.le_last i (by have := HPN.out; omega)
              have HL : Hid (i = p → F.getD i 0 ≤ r ∧ r ≤ L.getD i 0) := fun h => by
                subst h
                rw [HR.out]
                exact ⟨HG.out.1 _ (by omega), Int.le_refl _⟩
              have hi0 : (0 : Int) ≤ (i : Int) := by omega
              have hi1 : (i : Int) < (n : Int) := by omega
              clear hb0
              generalize F.getD i 0 = x at d1 HL
              generalize L.getD i 0 = y at d2 HL hyr
              by_cases hx : x ≤ r
              · by_cases hy : r ≤ y
                · go_wp2
                  go_round
                  case rel => exact ⟨i + 1, true, by omega, by go_num, rfl, fun _ => rfl⟩
                  case measure => simp [intOf]; omega
                · go_wp2
                  go_round
                  case rel => exact ⟨i + 1, b, by omega, by go_num, rfl, fun h => absurd (HL.out (by have := HPN.out; omega)).2 hy⟩
                  case measure => simp [intOf]; omega
              · go_wp2
                go_round
                case rel => exact ⟨i + 1, b, by omega, by go_num, rfl, fun h => absurd (HL.out (by have := HPN.out; omega)).1 hx⟩
                case measure => simp [intOf]; omega
            · have hbt := hb0 (by omega)
              subst hbt
              go_wp2
              go_ret
              exact ⟨rfl, hbel7⟩
end Go.Proofs.Qxb6623416a
