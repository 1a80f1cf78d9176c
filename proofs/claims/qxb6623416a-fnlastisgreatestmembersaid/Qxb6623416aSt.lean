/-
  'ZZSet' (function 5), '(Set).Last' (function 6), the guard (4).
-/
import Derived.Test.Qxb6623416aRows
import Derived.WalkKit
import Derived.ProofKit
import Derived.OpenShut
import Derived.WalkLawsBesides
import Derived.Outline
import Derived.Deep.QuietTactic
import Derived.BigQuiet
import Derived.BigRegion
import Derived.Laws.CopyOwn
namespace Go.Proofs.Qxb6623416a
open Go.ChangeShapes Go.WideShapes Go.ChangeAt Go.RowKit

/-- A '[]uint64' of the numbers xs: where it has an element it has an address. -/
structure RowAt (w : World) (ao : Option Addr) (n c : Nat) (xs : List Int) : Prop where
  len : xs.length = n
  le : n ≤ c
  bd : ∀ i, 0 ≤ xs.getD i 0 ∧ xs.getD i 0 ≤ 18446744073709551615
  at' : 0 < n → ∃ b off, ao = some ⟨b, off, none⟩ ∧ b < w.heap.size ∧ ∀ i, i < n → w.cell? ⟨b, off + i, none⟩ = some (.int .u64 (xs.getD i 0))

theorem RowAt.later {w w' : World} {ao : Option Addr} {n c : Nat} {xs : List Int} (h : RowAt w ao n c xs) {B : Nat} (hB : w.heap.size ≤ B) (hb : Below B w w') : RowAt w' ao n c xs := by
  refine ⟨h.len, h.le, h.bd, fun hn => ?_⟩
  obtain ⟨b, off, hao, hbl, hc⟩ := h.at' hn
  exact ⟨b, off, hao, Nat.lt_of_lt_of_le hbl hb.size, fun i hi => by rw [hb.cell (p := ⟨b, off + i, none⟩) (Nat.lt_of_lt_of_le hbl hB)]; exact hc i hi⟩
theorem RowAt.drewN {w : World} {ao : Option Addr} {n c : Nat} {xs : List Int} (h : RowAt w ao n c xs) (q : Nat) : RowAt (w.drewN q) ao n c xs := ⟨h.len, h.le, h.bd, h.at'⟩

theorem info31 : (Try.prog.info? 31).map (fun i => (i.zero, i.size, i.bytes)) = some (some (.agg #[.int .u64 0, .int .u64 0]), 2, 16) := by kernel_rfl

set_option maxHeartbeats 400000 in
theorem last_none (s : ByteArray) (io : Option Addr) (w : World) :
    Calls Try.prog 6 #[.agg #[.string s, .slice io 0 0]] w fun e w' => e = .returned (.int .u64 0) ∧ Below w.heap.size w w' := by
  go_enter Try.func6, Try.ntmps6
  go_wp2
  go_ret
  exact ⟨rfl, (Below.refl _ _).alloc (Nat.le_refl _) _⟩

set_option maxHeartbeats 400000 in
theorem last_some (s : ByteArray) (g p : Nat) (r : Int) (w : World) (hp : p ≤ 131072) (hg : g < w.heap.size) (hc : w.cell? ⟨g, p * 2 + 1, none⟩ = some (.int .u64 r)) :
    Calls Try.prog 6 #[.agg #[.string s, .slice (some ⟨g, 0, none⟩) (p + 1) (p + 1)]] w fun e w' => e = .returned (.int .u64 r) ∧ Below w.heap.size w w' := by
  go_enter Try.func6, Try.ntmps6
  go_wp2
  go_ret
  exact ⟨rfl, (Below.refl _ _).alloc (Nat.le_refl _) _⟩

/-- The row of intervals that 'ZZSet' makes: block g, n intervals of two cells each, k of them filled. -/
structure Ivs (w : World) (g n k : Nat) (L : List Int) : Prop where
  lt : g < w.heap.size
  there : ∀ j, j < n * 2 → ∃ v, w.cell? ⟨g, j, none⟩ = some v
  free : ∀ j, w.frozen? ⟨g, j, none⟩ = false
  last : ∀ p, k = p + 1 → w.cell? ⟨g, p * 2 + 1, none⟩ = some (.int .u64 (L.getD p 0))

/-- 'make([]interval, n)'. -/
theorem wpList_make_ivs {P : Program} (w : World) {ops : Array Oper} {rest : List Oper} {o : Oper} {a : Act} {Q : Exit → Act → World → Prop}
    (hg : o.guard = none) (l c : Operand) (t : TypeId) (hop : o.op = Op.makeSlice t l c)
    (e : TypeId) (i : TypeInfo) (z : Value) (h1 : P.underlying t = some (.slice e)) (h2 : P.info? e = some i) (h3 : i.zero = some z) (h4 : i.size = 2)
    (kl kc : IntKind) (X C : Int) (m : Nat) (hl : a.eval l = .int kl X) (hc : a.eval c = .int kc C) (hX : X = (m : Int)) (hC : C = (m : Int)) (b2 : i.bytes * m ≤ 281474976710656) (b3 : m ≤ 9223372036854775807) (L : List Int)
    (hK : ∀ w', Ivs w' w.heap.size m 0 L → Below w.heap.size w w' → wpList P ops Q rest (a.put o.dst (.slice (some ⟨w.heap.size, 0, none⟩) m m)) w') :
    wpList P ops Q (o :: rest) a w := by
  refine wpList_plain hg fun K hK' => ?_
  subst hX
  subst hC
  have hb' : (i.bytes : Int) * (m : Int) ≤ 281474976710656 := by
    have h : ((i.bytes * m : Nat) : Int) ≤ 281474976710656 := by omega
    rwa [Int.natCast_mul] at h
  have hrun := run_make (P := P) w t e i z h1 h2 h3 kl kc (m : Int) (m : Int) (by omega) (by omega) hb' (by omega)
  rw [Int.toNat_natCast, h4] at hrun
  unfold Oper.wp
  simp only [execOp, hop, hl, hc, hrun, Sem.run_bind, Sem.run_pure, Result.andThen_ok]
  have hnew := heap_alloc_new w (.cells (madeCells z.cells (m * 2)) e)
  refine hK' _ _ (hK _ ⟨by simp, fun j hj => ?_, fun j => ?_, fun p hp => by omega⟩ ((Below.refl _ _).alloc (Nat.le_refl _) _))
  · simp only [World.cell?, hnew]
    have hs : j < (madeCells z.cells (m * 2)).size := by rw [size_madeCells]; exact hj
    exact ⟨_, Array.getElem?_eq_getElem hs⟩
  · simp only [World.frozen?, hnew]
    simp

theorem Ivs.stored {w : World} {g n k : Nat} {L : List Int} (h : Ivs w g n k L) (hk : k < n) (a : Value) : Ivs ((w.setCell ⟨g, k * 2, none⟩ a).setCell ⟨g, k * 2 + 1, none⟩ (.int .u64 (L.getD k 0))).drew g n (k + 1) L := by
  refine ⟨by have := h.lt; simpa using this, fun j hj => ?_, fun j => ?_, fun p hp => ?_⟩
  · obtain ⟨v, hv⟩ := h.there j hj
    obtain ⟨v1, h1⟩ := cell?_setCell_some (p := ⟨g, k * 2, none⟩) (x := a) hv
    exact cell?_setCell_some (p := ⟨g, k * 2 + 1, none⟩) (x := .int .u64 (L.getD k 0)) h1
  · have := h.free j; simpa using this
  · have e : p = k := by omega
    subst e
    obtain ⟨v, hv⟩ := h.there (p * 2 + 1) (by omega)
    obtain ⟨v1, h1⟩ := cell?_setCell_some (p := ⟨g, p * 2, none⟩) (x := a) hv
    exact World.cell?_setCell_same _ _ _ h1
theorem Ivs.later {w w' : World} {g n k : Nat} {L : List Int} (h : Ivs w g n k L) (hb : Below w.heap.size w w') : Ivs w' g n k L :=
  ⟨Nat.lt_of_lt_of_le h.lt hb.size, fun j hj => by rw [hb.cell (p := ⟨g, j, none⟩) h.lt]; exact h.there j hj, fun j => by rw [hb.frozen (p := ⟨g, j, none⟩) h.lt]; exact h.free j, fun p hp => by rw [hb.cell (p := ⟨g, p * 2 + 1, none⟩) h.lt]; exact h.last p hp⟩

theorem Ivs.beside {w : World} {g n k b : Nat} {L : List Int} (h : Ivs w g n k L) (hne : b ≠ g) (u v : Value) : Ivs ((w.setCell ⟨b, 0, none⟩ u).setCell ⟨b, 1, none⟩ v) g n k L := by
  have hc : ∀ j, ((w.setCell ⟨b, 0, none⟩ u).setCell ⟨b, 1, none⟩ v).cell? ⟨g, j, none⟩ = w.cell? ⟨g, j, none⟩ := fun j => by
    rw [World.cell?_setCell_other, World.cell?_setCell_other]
    · intro e; injection e with e1; exact hne e1
    · intro e; injection e with e1; exact hne e1
  exact ⟨by have := h.lt; simpa using this, fun j hj => by rw [hc]; exact h.there j hj, fun j => by have := h.free j; simpa using this, fun p hp => by rw [hc]; exact h.last p hp⟩

set_option maxHeartbeats 800000 in
theorem zzSet (s : ByteArray) (fo lo : Option Addr) (n c d : Nat) (F L : List Int) (w : World) (hn : n ≤ 131072) (hF : RowAt w fo n c F) (hL : RowAt w lo n d L) :
    Calls Try.prog 5 #[.string s, .slice fo n c, .slice lo n d] w fun e w' => ∃ g, e = .returned (.agg #[.string s, .slice (some ⟨g, 0, none⟩) n n]) ∧ Ivs w' g n n L ∧ Below w.heap.size w w' := by
  obtain ⟨i31, hi, hz0, hz1, hz2⟩ := info_parts info31
  go_enter Try.func5, Try.ntmps5
  go_wp2_with (at_make; refine wpList_make_ivs _ rfl _ _ 25 rfl 31 i31 _ Try.underlying25 hi hz0 hz1 _ _ _ _ n rfl rfl rfl rfl (by rw [hz2]; omega) (by omega) L ?_)
  intro w1 hiv hb1
  obtain ⟨w0, hw0⟩ : ∃ w0, w0 = w.alloc (.cells #[.string ⟨#[]⟩, .slice none 0 0] 27) := ⟨_, rfl⟩
  have hb0 : Below w.heap.size w w0 := by rw [hw0]; exact (Below.refl _ _).alloc (Nat.le_refl _) _
  have hz0' : w.heap.size < w0.heap.size := by rw [hw0]; simp
  have hr0 : w0.cell? ⟨w.heap.size, 0, none⟩ = some (.string ⟨#[]⟩) := by rw [hw0]; simp
  have hr1 : w0.cell? ⟨w.heap.size, 1, none⟩ = some (.slice none 0 0) := by rw [hw0]; simp
  have hf0 : ∀ j, w0.frozen? ⟨w.heap.size, j, none⟩ = false := by intro j; rw [hw0]; simp
  rw [← hw0] at hb1
  have H0 : Hid (w0.cell? ⟨w.heap.size, 0, none⟩ = some (.string ⟨#[]⟩) ∧ w0.cell? ⟨w.heap.size, 1, none⟩ = some (.slice none 0 0) ∧ ∀ j, w0.frozen? ⟨w.heap.size, j, none⟩ = false) := ⟨hr0, hr1, hf0⟩
  clear hr0 hr1 hf0 hw0
  go_wp2
  go_loopw [9] (fun i wr => ∃ k : Nat, k ≤ n ∧ i = .int .i64 k ∧ Ivs wr (w.heap.size + 1) n k L ∧ Below (w.heap.size + 1) w0 wr) (fun i _ => n - (intOf i).toNat)
  case atStart => exact ⟨0, Nat.zero_le _, rfl, hiv, hb1⟩
  case round =>
    clear hiv hb1
    obtain ⟨k, hk, rfl, hiv, hb⟩ := hrel
    by_cases hlt : k < n
    · obtain ⟨b1, o1, e1, hbl1, c1⟩ := hF.at' (by omega)
      obtain ⟨b2, o2, e2, hbl2, c2⟩ := hL.at' (by omega)
      have d1 : wr.cell? ⟨b1, o1 + k, none⟩ = some (.int .u64 (F.getD k 0)) := by
        rw [hb.cell (p := ⟨b1, o1 + k, none⟩) (Nat.lt_succ_of_lt hbl1), hb0.cell (p := ⟨b1, o1 + k, none⟩) hbl1]; exact c1 k hlt
      have d2 : wr.cell? ⟨b2, o2 + k, none⟩ = some (.int .u64 (L.getD k 0)) := by
        rw [hb.cell (p := ⟨b2, o2 + k, none⟩) (Nat.lt_succ_of_lt hbl2), hb0.cell (p := ⟨b2, o2 + k, none⟩) hbl2]; exact c2 k hlt
      obtain ⟨v0, t0⟩ := hiv.there (k * 2) (by omega)
      obtain ⟨v1, t1⟩ := hiv.there (k * 2 + 1) (by omega)
      have f0 := hiv.free (k * 2)
      have f1 := hiv.free (k * 2 + 1)
      have hj0 : (0 : Int) ≤ (k : Int) := by omega
      have hj1 : (k : Int) < (n : Int) := by omega
      have HN : Hid (Ivs ((wr.setCell ⟨w.heap.size + 1, k * 2, none⟩ (.int .u64 (F.getD k 0))).setCell ⟨w.heap.size + 1, k * 2 + 1, none⟩ (.int .u64 (L.getD k 0))).drew (w.heap.size + 1) n (k + 1) L) := hiv.stored hlt _
      have HB : Hid (Below (w.heap.size + 1) w0 ((wr.setCell ⟨w.heap.size + 1, k * 2, none⟩ (.int .u64 (F.getD k 0))).setCell ⟨w.heap.size + 1, k * 2 + 1, none⟩ (.int .u64 (L.getD k 0))).drew) := ((hb.setCell (Nat.le_refl _) _).setCell (Nat.le_refl _) _).drew
      clear c1 c2 hiv hb
      subst e1 e2
      generalize F.getD k 0 = x at d1 HN HB
      generalize L.getD k 0 = y at d2 HN HB
      go_wp2
      go_region
      go_wp2
      go_roundw
      case rel => exact ⟨k + 1, by omega, by go_num, HN.out, HB.out⟩
      case measure => simp [intOf]; omega
    · have hkn : k = n := by omega
      subst hkn
      have r0 : wr.cell? ⟨w.heap.size, 0, none⟩ = some (.string ⟨#[]⟩) := (hb.cell (p := ⟨w.heap.size, 0, none⟩) (Nat.lt_succ_self _)).trans H0.out.1
      have r1 : wr.cell? ⟨w.heap.size, 1, none⟩ = some (.slice none 0 0) := (hb.cell (p := ⟨w.heap.size, 1, none⟩) (Nat.lt_succ_self _)).trans H0.out.2.1
      have f0 : wr.frozen? ⟨w.heap.size, 0, none⟩ = false := (hb.frozen (p := ⟨w.heap.size, 0, none⟩) (Nat.lt_succ_self _)).trans (H0.out.2.2 0)
      have f1 : wr.frozen? ⟨w.heap.size, 1, none⟩ = false := (hb.frozen (p := ⟨w.heap.size, 1, none⟩) (Nat.lt_succ_self _)).trans (H0.out.2.2 1)
      have HI : Hid (Ivs ((wr.setCell ⟨w.heap.size, 0, none⟩ (.string s)).setCell ⟨w.heap.size, 1, none⟩ (.slice (some ⟨w.heap.size + 1, 0, none⟩) k k)) (w.heap.size + 1) k k L) := hiv.beside (by omega) _ _
      have HB : Hid (Below w.heap.size w ((wr.setCell ⟨w.heap.size, 0, none⟩ (.string s)).setCell ⟨w.heap.size, 1, none⟩ (.slice (some ⟨w.heap.size + 1, 0, none⟩) k k))) :=
        ((hb0.trans (hb.mono (Nat.le_succ _))).setCell (Nat.le_refl _) _).setCell (Nat.le_refl _) _
      clear hiv hb H0
      go_wp2
      exact bodyPost_ret (v := .agg #[.string s, .slice (some ⟨w.heap.size + 1, 0, none⟩) k k]) (by simp [results, Try.results5, go_sem, r0, r1]) rfl ⟨_, rfl, HI.out, HB.out⟩
end Go.Proofs.Qxb6623416a
