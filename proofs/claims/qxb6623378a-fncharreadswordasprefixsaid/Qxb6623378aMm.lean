/-
  'FnCharReadsWordAsPrefix' (function 3): the walk, 'rest' nil | not nil.
-/
import Derived.Test.Qxb6623378aMw
namespace Go.Proofs.Qxb6623378a
open Go.ChangeShapes Go.WideShapes Go.ChangeAt Go.RowKit

set_option maxHeartbeats 1000000 in
theorem mm_some (x : Addr) (n c : Nat) (R : List Int) (ok : Bool) (bo : Option Addr) (m d : Nat) (W : List Int) (w : World) (hn : n ≤ 1048576) (hm : m ≤ 1048576) (hR : RowAt w (some x) n c R) (hW : RowAt w bo m d W) :
    Calls Try.prog 3 #[.slice (some x) n c, .bool ok, .slice bo m d] w fun e w' => e = .returned (.bool true) ∧ Below w.heap.size w w' := by
  obtain ⟨i5, hi5, hy0, hy1, hy2⟩ := info_parts info5
  obtain ⟨ao, hao⟩ : ∃ ao, ao = some x := ⟨_, rfl⟩
  have q22 : ∀ (w : World) (n c : Nat), (binOp .neq 22 (.slice ao n c) (.slice none 0 0)).run Try.prog w = .ok (.bool true) w := fun w n c => by
    rw [hao]; exact run_neq_slice_nil (P := Try.prog) w 22 5 (some x) n c Try.underlying22
  rw [← hao] at hR ⊢
  clear hao
  go_enter Try.func3, Try.ntmps3
  go_wp2_with fail
  refine (bytes4 ao n c ok bo m d w (by omega) (by omega)).mono ?_
  rintro e w' ⟨⟨r, rfl⟩, hw'⟩
  have hw2 : w = w' := hw'.symm
  subst hw2
  cases r with
  | false =>
    go_wp2
    go_ret
    exact ⟨rfl, Below.refl _ _⟩
  | true =>
    go_wp2_with (at_make; refine wpList_make_room _ rfl _ _ 22 rfl 5 i5 (.int .u8 0) Try.underlying22 hi5 hy0 hy1 rfl _ _ _ _ n n rfl rfl rfl rfl (Nat.le_refl _) (by rw [hy2]; omega) (by omega) ?_)
    intro w1 hg1 hz1 hb1
    clear q22
    go_wp2_with (refine wpList_copy_splice rfl (.tmp 29) (.tmp 30) 22 22 rfl 5 Try.underlying22 (by rw [hi5]; exact congrArg some hy1) _ _ _ _ _ _ rfl rfl w.heap.size 0 _ 5 hg1.out (nums R) ?c1 ?c2 ?c3 ?c4 w.heap.size w hb1 (Nat.le_refl _) ?_)
    case c1 => rw [nums_length, hR.len]; exact (Nat.min_self _).symm
    case c2 => exact nums_cells hR hb1
    case c3 => have := hR.len; simp only [zeros, nums_length, List.length_replicate]; omega
    case c4 => exact nums_one R
    intro w2 hg2 hb2
    have hlt2 : w.heap.size < w2.heap.size := by
      rcases Nat.lt_or_ge w.heap.size w2.heap.size with h | h
      · exact h
      · have := hg2.out; rw [Array.getElem?_eq_none h] at this; cases this
    have hrow2 := row_spliced hR.len hlt2 hg2.out
    clear hg1 hz1 hb1 hg2 hlt2
    go_wp2
    go_loopw [8, 9, 10] (fun rv kv iv wr => Rel1 w ok R W m rv kv iv wr) (fun _ _ iv _ => m - (intOf iv).toNat)
    case atStart => exact ⟨0, _, n, n, R, ok, Nat.zero_le _, rfl, rfl, rfl, hrow2, hb2, fun h => ⟨⟨h, Nat.zero_le _, fun j hj => absurd hj (Nat.not_lt_zero _)⟩, rfl⟩, fun h hp => by rw [hp.1] at h; cases h⟩
    case round =>
      obtain ⟨i, ro, nn, cc, xs, k, hi, rfl, rfl, rfl, hrow, hbel, hk1, hk0⟩ := hrel
      by_cases hlt : i < m
      · obtain ⟨b2, o2, e2, hb2, c2⟩ := hW.at' (by omega)
        have d2 : wr.cell? ⟨b2, o2 + i, none⟩ = some (.int .u8 (W.getD i 0)) := (hbel.cell (p := ⟨b2, o2 + i, none⟩) hb2).trans (c2 i hlt)
        have HK : Hid ((k = true → pre ok R W i ∧ xs = R.drop i) ∧ (k = false → ¬ pre ok R W i)) := ⟨hk1, hk0⟩
        clear c2 hk1 hk0
        subst e2
        go_wp2_with fail
        refine (zzChar_any ro nn cc xs k _ _ hrow).mono ?_
        rintro e w2 ⟨ro', n', c', xs', k', rfl, hrow', hb', hs1, hs0⟩
        have hbel2 : Below w.heap.size w w2 := hbel.trans (hb'.mono hbel.size)
        have HN : Hid ((k' = true → pre ok R W (i + 1) ∧ xs' = R.drop (i + 1)) ∧ (k' = false → ¬ pre ok R W (i + 1))) := next_pre HK.out.1 HK.out.2 hs1 hs0
        clear HK hs1 hs0 hrow hbel hb' d2
        go_wp2
        go_roundw
        case rel => exact ⟨i + 1, ro', n', c', xs', k', by omega, by go_num, rfl, rfl, hrow', hbel2, HN.out.1, HN.out.2⟩
        case measure => simp [intOf]; omega
      · have him : i = m := by omega
        subst him
        have HK : Hid ((k = true → pre ok R W i ∧ xs = R.drop i) ∧ (k = false → ¬ pre ok R W i)) := ⟨hk1, hk0⟩
        clear hk1 hk0
        by_cases hok : ok = true ∧ i ≤ n
        · obtain ⟨hok1, hin⟩ := hok
          subst hok1
          go_wp2
          go_loopw [11, 12] (fun bv jv wq => Rel2 w R W i ro nn cc xs ao n c bo d bv jv wq) (fun _ jv _ => i - (intOf jv).toNat)
          case atStart => exact ⟨0, true, Nat.zero_le _, rfl, rfl, hrow, hR.later (Nat.le_refl _) hbel, hW.later (Nat.le_refl _) hbel, hbel, fun _ => ⟨rfl, Nat.zero_le _, fun j hj => absurd hj (Nat.not_lt_zero _)⟩, fun h => by cases h⟩
          case round =>
            clear hrow hbel
            obtain ⟨j, b, hj, rfl, rfl, hrow, hRq, hWq, hbel, hb1, hb0⟩ := hrel
            cases b with
            | false =>
              have hkf : k = false := by
                cases k with
                | false => rfl
                | true => exact absurd (HK.out.1 rfl).1 (hb0 rfl)
              subst hkf
              clear HK hb0 hb1 hrow hRq hWq
              go_wp2
              go_ret
              exact ⟨rfl, hbel⟩
            | true =>
              have HP : Hid (pre true R W j) := hb1 rfl
              clear hb0 hb1
              by_cases hlt2 : j < i
              · obtain ⟨b1, o1, e1, hbl1, c1⟩ := hRq.at' (by omega)
                obtain ⟨b2, o2, e2, hbl2, c2⟩ := hWq.at' (by omega)
                have d1 := c1 j (by omega)
                have d2 := c2 j hlt2
                have hj0 : (0 : Int) ≤ (j : Int) := by omega
                have hj1 : (j : Int) < (n : Int) := by omega
                have hj2 : (j : Int) < (i : Int) := by omega
                clear c1 c2
                obtain ⟨X, hX⟩ : ∃ X, X = R.getD j 0 := ⟨_, rfl⟩
                obtain ⟨Y, hY⟩ : ∃ Y, Y = W.getD j 0 := ⟨_, rfl⟩
                rw [← hX] at d1
                rw [← hY] at d2
                have HX : Hid (X = R.getD j 0) := hX
                have HY : Hid (Y = W.getD j 0) := hY
                clear hX hY
                subst e1 e2
                by_cases hxy : X = Y
                · subst hxy
                  go_wp2
                  go_quiet (fail)
                  have hrow3 := hrow.drewN nq
                  have hRq3 := hRq.drewN nq
                  have hWq3 := hWq.drewN nq
                  have hbel3 : Below w.heap.size w (wr.drewN nq) := below_drewN hbel nq
                  clear d1 d2 hrow hRq hWq hbel
                  generalize wr.drewN nq = w3 at hrow3 hRq3 hWq3 hbel3
                  go_wp2
                  go_roundw
                  case rel => exact ⟨j + 1, true, by omega, by go_num, rfl, hrow3, hRq3, hWq3, hbel3, fun _ => pre_step HP.out (by have := hRq3.len; omega) (HX.out.symm.trans HY.out), fun h => by cases h⟩
                  case measure => simp [intOf]; omega
                · have hxy' : (X == Y) = false := by simpa using hxy
                  go_wp2
                  go_quiet (fail)
                  have hrow3 := hrow.drewN nq
                  have hRq3 := hRq.drewN nq
                  have hWq3 := hWq.drewN nq
                  have hbel3 : Below w.heap.size w (wr.drewN nq) := below_drewN hbel nq
                  clear d1 d2 hrow hRq hWq hbel
                  generalize wr.drewN nq = w3 at hrow3 hRq3 hWq3 hbel3
                  go_wp2
                  go_roundw
                  case rel => exact ⟨j + 1, false, by omega, by go_num, rfl, hrow3, hRq3, hWq3, hbel3, (fun h => by cases h), fun _ hp => hxy (by rw [HX.out, HY.out]; exact hp.2.2 j hlt2)⟩
                  case measure => simp [intOf]; omega
              · have hji : j = i := by omega
                subst hji
                have hkt : k = true := by
                  cases k with
                  | true => rfl
                  | false => exact absurd HP.out (HK.out.2 rfl)
                subst hkt
                have HD : Hid (xs = R.drop j) := (HK.out.1 rfl).2
                clear HK HP
                have hnn : nn = n - j := by have h1 := hrow.len; rw [HD.out, List.length_drop, hRq.len] at h1; omega
                subst hnn
                have hrow' : RowAt wr ro (n - j) cc (R.drop j) := by rw [← HD.out]; exact hrow
                clear hrow HD hWq
                by_cases hcj : c = j
                · have hz : RowAt wr ao (n - j) 0 (R.drop j) := by
                    have h0 := row_drop (ao' := ao) hRq hin (fun h => by have := hRq.le; omega)
                    rwa [show c - j = 0 by omega] at h0
                  clear hRq
                  go_wp2_with fail
                  refine (sameBytes ro ao (n - j) cc 0 (R.drop j) wr (by omega) hrow' hz).mono ?_
                  rintro e w3 ⟨rfl, hb3⟩
                  have hbel3 : Below w.heap.size w w3 := hbel.trans (hb3.mono hbel.size)
                  go_wp2
                  go_ret
                  exact ⟨rfl, hbel3⟩
                · have hz : RowAt wr (ao.map fun x => x.add j) (n - j) (c - j) (R.drop j) := row_drop hRq hin (fun _ => rfl)
                  clear hRq
                  go_wp2_with fail
                  refine (sameBytes ro _ (n - j) cc _ (R.drop j) wr (by omega) hrow' hz).mono ?_
                  rintro e w3 ⟨rfl, hb3⟩
                  have hbel3 : Below w.heap.size w w3 := hbel.trans (hb3.mono hbel.size)
                  go_wp2
                  go_ret
                  exact ⟨rfl, hbel3⟩
        · have hkf : k = false := by
            cases k with
            | false => rfl
            | true =>
              obtain ⟨h1, h2, _⟩ := (HK.out.1 rfl).1
              exact absurd ⟨h1, by have := hR.len; omega⟩ hok
          subst hkf
          clear HK hrow
          cases ok with
          | false =>
            go_wp2
            refine wp_loop_rounds 1 ?_
            rw [rounds_succ]
            go_wp2
            go_ret
            exact ⟨rfl, hbel⟩
          | true =>
            have hin : ¬ i ≤ n := fun h => hok ⟨rfl, h⟩
            clear hok
            go_wp2
            refine wp_loop_rounds 1 ?_
            rw [rounds_succ]
            go_wp2
            go_ret
            exact ⟨rfl, hbel⟩

set_option maxHeartbeats 1000000 in
theorem mm_nil (n c : Nat) (R : List Int) (ok : Bool) (bo : Option Addr) (m d : Nat) (W : List Int) (w : World) (hn : n ≤ 1048576) (hm : m ≤ 1048576) (hR0 : RowAt w none n c R) (hW : RowAt w bo m d W) :
    Calls Try.prog 3 #[.slice none n c, .bool ok, .slice bo m d] w fun e w' => e = .returned (.bool true) ∧ Below w.heap.size w w' := by
  obtain ⟨ao, hao⟩ : ∃ ao : Option Addr, ao = none := ⟨_, rfl⟩
  have q22 : ∀ (w : World) (n c : Nat), (binOp .neq 22 (.slice ao n c) (.slice none 0 0)).run Try.prog w = .ok (.bool false) w := fun w n c => by
    rw [hao]; exact run_neq_slice_nil (P := Try.prog) w 22 5 none n c Try.underlying22
  have hn0 : n = 0 := by
    rcases Nat.eq_zero_or_pos n with h | h
    · exact h
    · obtain ⟨_, _, h', _⟩ := hR0.at' h; cases h'
  have hRe : R = [] := List.eq_nil_of_length_eq_zero (by have := hR0.len; omega)
  have hrow2 : RowAt w none 0 0 R := ⟨by rw [hRe]; rfl, Nat.le_refl _, fun h => absurd h (Nat.lt_irrefl 0)⟩
  have hR := hR0
  rw [← hao] at hR ⊢
  clear hao hR0 hRe hn0
  go_enter Try.func3, Try.ntmps3
  go_wp2_with fail
  refine (bytes4 ao n c ok bo m d w (by omega) (by omega)).mono ?_
  rintro e w' ⟨⟨r, rfl⟩, hw'⟩
  have hw2 : w = w' := hw'.symm
  subst hw2
  cases r with
  | false =>
    go_wp2
    go_ret
    exact ⟨rfl, Below.refl _ _⟩
  | true =>
    go_wp2
    clear q22
    go_loopw [8, 9, 10] (fun rv kv iv wr => Rel1 w ok R W m rv kv iv wr) (fun _ _ iv _ => m - (intOf iv).toNat)
    case atStart => exact ⟨0, _, 0, 0, R, ok, Nat.zero_le _, rfl, rfl, rfl, hrow2, Below.refl _ _, fun h => ⟨⟨h, Nat.zero_le _, fun j hj => absurd hj (Nat.not_lt_zero _)⟩, rfl⟩, fun h hp => by rw [hp.1] at h; cases h⟩
    case round =>
      obtain ⟨i, ro, nn, cc, xs, k, hi, rfl, rfl, rfl, hrow, hbel, hk1, hk0⟩ := hrel
      by_cases hlt : i < m
      · obtain ⟨b2, o2, e2, hb2, c2⟩ := hW.at' (by omega)
        have d2 : wr.cell? ⟨b2, o2 + i, none⟩ = some (.int .u8 (W.getD i 0)) := (hbel.cell (p := ⟨b2, o2 + i, none⟩) hb2).trans (c2 i hlt)
        have HK : Hid ((k = true → pre ok R W i ∧ xs = R.drop i) ∧ (k = false → ¬ pre ok R W i)) := ⟨hk1, hk0⟩
        clear c2 hk1 hk0
        subst e2
        go_wp2_with fail
        refine (zzChar_any ro nn cc xs k _ _ hrow).mono ?_
        rintro e w2 ⟨ro', n', c', xs', k', rfl, hrow', hb', hs1, hs0⟩
        have hbel2 : Below w.heap.size w w2 := hbel.trans (hb'.mono hbel.size)
        have HN : Hid ((k' = true → pre ok R W (i + 1) ∧ xs' = R.drop (i + 1)) ∧ (k' = false → ¬ pre ok R W (i + 1))) := next_pre HK.out.1 HK.out.2 hs1 hs0
        clear HK hs1 hs0 hrow hbel hb' d2
        go_wp2
        go_roundw
        case rel => exact ⟨i + 1, ro', n', c', xs', k', by omega, by go_num, rfl, rfl, hrow', hbel2, HN.out.1, HN.out.2⟩
        case measure => simp [intOf]; omega
      · have him : i = m := by omega
        subst him
        have HK : Hid ((k = true → pre ok R W i ∧ xs = R.drop i) ∧ (k = false → ¬ pre ok R W i)) := ⟨hk1, hk0⟩
        clear hk1 hk0
        by_cases hok : ok = true ∧ i ≤ n
        · obtain ⟨hok1, hin⟩ := hok
          subst hok1
          go_wp2
          go_loopw [11, 12] (fun bv jv wq => Rel2 w R W i ro nn cc xs ao n c bo d bv jv wq) (fun _ jv _ => i - (intOf jv).toNat)
          case atStart => exact ⟨0, true, Nat.zero_le _, rfl, rfl, hrow, hR.later (Nat.le_refl _) hbel, hW.later (Nat.le_refl _) hbel, hbel, fun _ => ⟨rfl, Nat.zero_le _, fun j hj => absurd hj (Nat.not_lt_zero _)⟩, fun h => by cases h⟩
          case round =>
            clear hrow hbel
            obtain ⟨j, b, hj, rfl, rfl, hrow, hRq, hWq, hbel, hb1, hb0⟩ := hrel
            cases b with
            | false =>
              have hkf : k = false := by
                cases k with
                | false => rfl
                | true => exact absurd (HK.out.1 rfl).1 (hb0 rfl)
              subst hkf
              clear HK hb0 hb1 hrow hRq hWq
              go_wp2
              go_ret
              exact ⟨rfl, hbel⟩
            | true =>
              have HP : Hid (pre true R W j) := hb1 rfl
              clear hb0 hb1
              by_cases hlt2 : j < i
              · obtain ⟨b1, o1, e1, hbl1, c1⟩ := hRq.at' (by omega)
                obtain ⟨b2, o2, e2, hbl2, c2⟩ := hWq.at' (by omega)
                have d1 := c1 j (by omega)
                have d2 := c2 j hlt2
                have hj0 : (0 : Int) ≤ (j : Int) := by omega
                have hj1 : (j : Int) < (n : Int) := by omega
                have hj2 : (j : Int) < (i : Int) := by omega
                clear c1 c2
                obtain ⟨X, hX⟩ : ∃ X, X = R.getD j 0 := ⟨_, rfl⟩
                obtain ⟨Y, hY⟩ : ∃ Y, Y = W.getD j 0 := ⟨_, rfl⟩
                rw [← hX] at d1
                rw [← hY] at d2
                have HX : Hid (X = R.getD j 0) := hX
                have HY : Hid (Y = W.getD j 0) := hY
                clear hX hY
                subst e1 e2
                by_cases hxy : X = Y
                · subst hxy
                  go_wp2
                  go_quiet (fail)
                  have hrow3 := hrow.drewN nq
                  have hRq3 := hRq.drewN nq
                  have hWq3 := hWq.drewN nq
                  have hbel3 : Below w.heap.size w (wr.drewN nq) := below_drewN hbel nq
                  clear d1 d2 hrow hRq hWq hbel
                  generalize wr.drewN nq = w3 at hrow3 hRq3 hWq3 hbel3
                  go_wp2
                  go_roundw
                  case rel => exact ⟨j + 1, true, by omega, by go_num, rfl, hrow3, hRq3, hWq3, hbel3, fun _ => pre_step HP.out (by have := hRq3.len; omega) (HX.out.symm.trans HY.out), fun h => by cases h⟩
                  case measure => simp [intOf]; omega
                · have hxy' : (X == Y) = false := by simpa using hxy
                  go_wp2
                  go_quiet (fail)
                  have hrow3 := hrow.drewN nq
                  have hRq3 := hRq.drewN nq
                  have hWq3 := hWq.drewN nq
                  have hbel3 : Below w.heap.size w (wr.drewN nq) := below_drewN hbel nq
                  clear d1 d2 hrow hRq hWq hbel
                  generalize wr.drewN nq = w3 at hrow3 hRq3 hWq3 hbel3
                  go_wp2
                  go_roundw
                  case rel => exact ⟨j + 1, false, by omega, by go_num, rfl, hrow3, hRq3, hWq3, hbel3, (fun h => by cases h), fun _ hp => hxy (by rw [HX.out, HY.out]; exact hp.2.2 j hlt2)⟩
                  case measure => simp [intOf]; omega
              · have hji : j = i := by omega
                subst hji
                have hkt : k = true := by
                  cases k with
                  | true => rfl
                  | false => exact absurd HP.out (HK.out.2 rfl)
                subst hkt
                have HD : Hid (xs = R.drop j) := (HK.out.1 rfl).2
                clear HK HP
                have hnn : nn = n - j := by have h1 := hrow.len; rw [HD.out, List.length_drop, hRq.len] at h1; omega
                subst hnn
                have hrow' : RowAt wr ro (n - j) cc (R.drop j) := by rw [← HD.out]; exact hrow
                clear hrow HD hWq
                by_cases hcj : c = j
                · have hz : RowAt wr ao (n - j) 0 (R.drop j) := by
                    have h0 := row_drop (ao' := ao) hRq hin (fun h => by have := hRq.le; omega)
                    rwa [show c - j = 0 by omega] at h0
                  clear hRq
                  go_wp2_with fail
                  refine (sameBytes ro ao (n - j) cc 0 (R.drop j) wr (by omega) hrow' hz).mono ?_
                  rintro e w3 ⟨rfl, hb3⟩
                  have hbel3 : Below w.heap.size w w3 := hbel.trans (hb3.mono hbel.size)
                  go_wp2
                  go_ret
                  exact ⟨rfl, hbel3⟩
                · have hz : RowAt wr (ao.map fun x => x.add j) (n - j) (c - j) (R.drop j) := row_drop hRq hin (fun _ => rfl)
                  clear hRq
                  go_wp2_with fail
                  refine (sameBytes ro _ (n - j) cc _ (R.drop j) wr (by omega) hrow' hz).mono ?_
                  rintro e w3 ⟨rfl, hb3⟩
                  have hbel3 : Below w.heap.size w w3 := hbel.trans (hb3.mono hbel.size)
                  go_wp2
                  go_ret
                  exact ⟨rfl, hbel3⟩
        · have hkf : k = false := by
            cases k with
            | false => rfl
            | true =>
              obtain ⟨h1, h2, _⟩ := (HK.out.1 rfl).1
              exact absurd ⟨h1, by have := hR.len; omega⟩ hok
          subst hkf
          clear HK hrow
          cases ok with
          | false =>
            go_wp2
            refine wp_loop_rounds 1 ?_
            rw [rounds_succ]
            go_wp2
            go_ret
            exact ⟨rfl, hbel⟩
          | true =>
            have hin : ¬ i ≤ n := fun h => hok ⟨rfl, h⟩
            clear hok
            go_wp2
            refine wp_loop_rounds 1 ?_
            rw [rounds_succ]
            go_wp2
            go_ret
            exact ⟨rfl, hbel⟩
end Go.Proofs.Qxb6623378a
