/-
  'FnAppendKeyWalkSpellsDotJoin' (function 5): the walk.
-/
import Derived.Test.Qxb6619728aAg
import Derived.Test.Qxb6619728aDj
import Derived.Deep.QuietTactic
import Derived.BigQuiet
import Derived.Deep.RegionWith
import Derived.BigRegion
namespace Go.Proofs.Qxb6619728a
open Go.ChangeShapes Go.WideShapes Go.ChangeAt Go.RowKit

theorem outB_first (a : ByteArray) (ss : List ByteArray) : outB (a :: ss) 1 = a := by
  simp [outB, fk_cons]

theorem KeysAt.later {B : Nat} {w w' : World} {ao : Option Addr} {ss : List ByteArray} (hk : KeysAt w ao ss) (hB : w.heap.size ≤ B) (hb : Below B w w') : KeysAt w' ao ss := by
  intro i hi
  obtain ⟨b, off, hao, hbl, hc, hs⟩ := hk i hi
  exact ⟨b, off, hao, Nat.lt_of_lt_of_le hbl hb.size, by rw [hb.cell (p := ⟨b, off + i, none⟩) (Nat.lt_of_lt_of_le hbl hB)]; exact hc, hs⟩

theorem Spells.conv {base : Nat} {w : World} {v : Value} {s : ByteArray} (h : Spells base w v s) : ∀ n, (convert 27 9 v).run Try.prog (w.drewN n) = .ok (.string s) (w.drewN n) := fun n =>
  conv_own (w := w.drewN n) (base := base) s Try.underlying27 Try.underlying5 Try.underlying9 h.own

theorem Spells.later {base : Nat} {w w' : World} {v : Value} {s : ByteArray} (h : Spells base w v s) (hb : Below w.heap.size w w') : Spells base w' v s := by
  obtain ⟨p, c, rfl, ho⟩ := h
  refine ⟨p, c, rfl, ho.1, ?_⟩
  rcases ho.2 with h1 | ⟨g, cap, cur, hv, hbg, hg, h2⟩
  · exact .inl h1
  · have hlt : g < w.heap.size := by
      rcases Nat.lt_or_ge g w.heap.size with h | h
      · exact h
      · rw [Array.getElem?_eq_none h] at hg; cases hg
    exact .inr ⟨g, cap, cur, hv, hbg, (hb.block g hlt).trans hg, h2⟩

set_option maxHeartbeats 800000 in
theorem aw_main (s : ByteArray) (bo : Option Addr) (c : Nat) (ao : Option Addr) (cap : Nat) (ss : List ByteArray) (w : World) (ha : s.size ≤ 9223372036854775807) (hl : ss.length ≤ 9223372036854775807) (hbt : BytesAt w bo s) (hk : KeysAt w ao ss) :
    Calls Try.prog 5 #[.slice bo s.size c, .slice ao ss.length cap] w fun e w' => e = .returned (.bool true) ∧ Below w.heap.size w w' := by
  go_enter Try.func5, Try.ntmps5
  go_wp2_with fail
  refine (bytes11 s.size bo c ao cap ss w ha hl hk).mono ?_
  rintro e w' ⟨r, rfl, hw', hg⟩
  subst hw'
  cases r with
  | false =>
    go_wp2
    go_ret
    exact ⟨rfl, Below.refl _ _⟩
  | true =>
    have hw := hg rfl
    clear hg ha hl
    have hl : ss.length ≤ 1048576 := by have := wt_len ss; omega
    have ha : s.size ≤ 1048576 := by omega
    by_cases h1 : s.size ≤ 65536
    · by_cases h2 : ss.length ≤ 4096
      · go_wp2
        go_loop [5, 6] (fun t j => ∃ k : Nat, k ≤ ss.length ∧ j = .int .i64 k ∧ ∃ q : Nat, t = .int .i64 q ∧ q ≤ 65536) (fun _ j => ss.length - (intOf j).toNat)
        case atStart => exact ⟨0, Nat.zero_le _, rfl, s.size, rfl, h1⟩
        case round =>
          obtain ⟨k, hk1, rfl, q, rfl, hq⟩ := hrel
          by_cases hlt : k < ss.length
          · obtain ⟨b, off, hao, hbl, hc, _⟩ := hk k hlt
            subst hao
            generalize ss.getD k ByteArray.empty = x at hc
            by_cases hx : x.size ≤ 65536
            · go_wp2
              · go_ret
                exact ⟨rfl, Below.refl _ _⟩
              · go_round
                case rel => exact ⟨k + 1, by omega, by go_num, q + (16 + x.size), by go_num, by omega⟩
                case measure => simp [intOf]; omega
            · go_wp2
              go_ret
              exact ⟨rfl, Below.refl _ _⟩
          · clear hq
            go_wp2_with fail
            refine (cloneBytes s bo c _ ha hbt).mono ?_
            rintro e w1 ⟨v1, rfl, hsp1, hb1⟩
            have cv1 := hsp1.conv 0
            have cv1' : (convert 27 9 v1).run Try.prog w1 = .ok (.string s) w1 := cv1
            clear cv1
            go_wp2
            clear cv1'
            go_loopw [8, 9] (fun v j wr => ∃ (m : Nat) (u : Value), u = v ∧ m ≤ ss.length ∧ j = .int .i64 m ∧ Spells w'.heap.size wr u (outB (s :: ss) (m + 1)) ∧ Below w'.heap.size w' wr) (fun _ j _ => ss.length - (intOf j).toNat)
            case atStart => exact ⟨0, v1, rfl, Nat.zero_le _, rfl, by rw [outB_first]; exact hsp1, hb1⟩
            case round =>
              obtain ⟨m, v, hv, hm1, rfl, hsp, hb⟩ := hrel
              subst hv
              clear hsp1 hb1
              have hkr : KeysAt wr ao ss := hk.later (Nat.le_refl _) hb
              have hzr : w'.heap.size ≤ wr.heap.size := hb.size
              by_cases hlt2 : m < ss.length
              · obtain ⟨b, off, hao, hbl, hc, _⟩ := hk m hlt2
                subst hao
                have hcr : wr.cell? ⟨b, off + m, none⟩ = some (.string (ss.getD m ByteArray.empty)) := (hb.cell (p := ⟨b, off + m, none⟩) hbl).trans hc
                have HO : Hid (outB (s :: ss) (m + 1 + 1) = kp (outB (s :: ss) (m + 1)) (ss.getD m ByteArray.empty)) := outB_succ (s :: ss) (m + 1) (by simp only [List.length_cons]; omega)
                have hbd : (outB (s :: ss) (m + 1)).size + (ss.getD m ByteArray.empty).size ≤ 2097152 := by
                  have h3 := outB_bd (s :: ss) (m + 1) (by simp only [List.length_cons]; omega)
                  rw [wt_cons] at h3
                  have e : (s :: ss).getD (m + 1) ByteArray.empty = ss.getD m ByteArray.empty := rfl
                  rw [e] at h3
                  omega
                generalize ss.getD m ByteArray.empty = x at hc hcr HO hbd
                generalize outB (s :: ss) (m + 1) = p at HO hbd hsp
                have cv : (convert 27 9 v).run Try.prog wr = .ok (.string p) wr := hsp.conv 0
                clear hkr
                go_wp2_with fail
                refine (zzAppendKey_own p x v w'.heap.size _ hsp (by omega) hzr).mono ?_
                rintro e w2 ⟨v2, rfl, hsp2, hb2⟩
                have hb2' := hb.trans hb2
                have hc2 : w2.cell? ⟨b, off + m, none⟩ = some (.string x) := (hb2'.cell (p := ⟨b, off + m, none⟩) hbl).trans hc
                have cv2 := hsp2.conv
                clear cv hcr hb2 hb hsp
                go_wp2
                go_quiet ((go_at_call 8; exact Calls.quiet_of_same (keyPath_any _ _ _ (by omega))))
                have hsp3 : Spells w'.heap.size (w2.drewN nq) v2 (kp p x) := hsp2
                have hb3 : Below w'.heap.size w' (w2.drewN nq) := below_drewN hb2' nq
                clear cv2 hc2 hsp2 hb2'
                generalize w2.drewN nq = w3 at hsp3 hb3
                go_wp2
                go_roundw
                case rel => exact ⟨m + 1, v2, rfl, by omega, by go_num, by rw [HO.out]; exact hsp3, hb3⟩
                case measure => simp [intOf]; omega
              · rw [outB_all (s :: ss) (m + 1) (by simp only [List.length_cons]; omega)] at hsp
                have cv := hsp.conv
                have cv0 : (convert 27 9 v).run Try.prog wr = .ok (.string (fk (s :: ss))) wr := hsp.conv 0
                have cvd : (convert 27 9 v).run Try.prog wr.drew = .ok (.string (fk (s :: ss))) wr.drew := hsp.conv 1
                go_wp2
                go_region_with ((go_at_call 9; refine (dotJoin s ao cap ss _ (hkr.later (Nat.le_refl _) ((Below.refl _ _).drew)) hw).mono ?_; rintro e w2 ⟨rfl, hb2⟩; have hb4 : Below w'.heap.size w' w2 := hb.drew.trans (hb2.mono hzr); have cv2 := (Spells.later (w := wr.drew) hsp hb2).conv; have cv2' : (convert 27 9 v).run Try.prog w2 = .ok (.string (fk (s :: ss))) w2 := cv2 0; clear cv2))
                all_goals
                  go_wp2
                  go_ret
                  exact ⟨rfl, by assumption⟩
      · go_wp2
        go_ret
        exact ⟨rfl, Below.refl _ _⟩
    · go_wp2
      go_ret
      exact ⟨rfl, Below.refl _ _⟩
end Go.Proofs.Qxb6619728a
