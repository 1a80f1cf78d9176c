/-
  'zzSameBytes' (6), 'zzBytes_FnCharReadsWordAsPrefix' (4); make and copy as laws; plain laws on prefixes.
-/
import Derived.Test.Qxb6623378aCh
import Derived.Laws.CopyOwn
namespace Go.Proofs.Qxb6623378a
open Go.ChangeShapes Go.WideShapes Go.ChangeAt Go.RowKit

set_option maxHeartbeats 400000 in
theorem bytes4 (ao : Option Addr) (n c : Nat) (k : Bool) (bo : Option Addr) (m d : Nat) (w : World) (hn : n ≤ 9223372036854775807) (hm : m ≤ 9223372036854775807) :
    Calls Try.prog 4 #[.slice ao n c, .bool k, .slice bo m d] w fun e w' => (∃ r, e = .returned (.bool r)) ∧ w' = w := by
  go_enter Try.func4, Try.ntmps4
  go_wp2
  all_goals
    go_ret
    exact ⟨⟨_, rfl⟩, rfl⟩

set_option maxHeartbeats 400000 in
theorem sameBytes (ao bo : Option Addr) (n c d : Nat) (xs : List Int) (w : World) (hn : n ≤ 1048576) (ha : RowAt w ao n c xs) (hb : RowAt w bo n d xs) :
    Calls Try.prog 6 #[.slice ao n c, .slice bo n d] w fun e w' => e = .returned (.bool true) ∧ Below w.heap.size w w' := by
  go_enter Try.func6, Try.ntmps6
  go_wp2
  go_loopw [5] (fun i wr => ∃ k : Nat, k ≤ n ∧ i = .int .i64 k ∧ (∀ a, wr.cell? a = w.cell? a) ∧ Below w.heap.size w wr) (fun i _ => n - (intOf i).toNat)
  case atStart => exact ⟨0, Nat.zero_le _, rfl, fun _ => rfl, Below.refl _ _⟩
  case round =>
    obtain ⟨k, hk, rfl, hsame, hbel⟩ := hrel
    by_cases hlt : k < n
    · obtain ⟨b1, o1, e1, hb1, c1⟩ := ha.at' (by omega)
      obtain ⟨b2, o2, e2, hb2, c2⟩ := hb.at' (by omega)
      have d1 : wr.cell? ⟨b1, o1 + k, none⟩ = some (.int .u8 (xs.getD k 0)) := (hsame _).trans (c1 k hlt)
      have d2 : wr.cell? ⟨b2, o2 + k, none⟩ = some (.int .u8 (xs.getD k 0)) := (hsame _).trans (c2 k hlt)
      have hlt' : (k : Int) < (n : Int) := by omega
      have hk0 : (0 : Int) ≤ (k : Int) := by omega
      have HS : Hid (∀ a, wr.cell? a = w.cell? a) := hsame
      clear hsame c1 c2
      subst e1 e2
      generalize xs.getD k 0 = x at d1 d2
      go_wp2
      go_quiet (fail)
      have HS2 : Hid (∀ a, (wr.drewN nq).cell? a = w.cell? a) := HS
      have hbel2 : Below w.heap.size w (wr.drewN nq) := below_drewN hbel nq
      clear d1 d2 HS hbel
      generalize wr.drewN nq = w2 at HS2 hbel2
      go_wp2
      go_roundw
      case rel => exact ⟨k + 1, by omega, by go_num, HS2.out, hbel2⟩
      case measure => simp [intOf]; omega
    · clear hsame
      go_wp2
      go_ret
      exact ⟨rfl, hbel⟩

/-- A row of m zeros. -/
def zeros (m : Nat) (z : Value) : List Value := List.replicate m z
/-- 'make([]T, n, m)', n and m variables: a new row of m zeros. -/
theorem wpList_make_room {P : Program} (w : World) {ops : Array Oper} {rest : List Oper} {o : Oper} {a : Act} {Q : Exit → Act → World → Prop}
    (hg : o.guard = none) (l c : Operand) (t : TypeId) (hop : o.op = Op.makeSlice t l c)
    (e : TypeId) (i : TypeInfo) (z : Value) (h1 : P.underlying t = some (.slice e)) (h2 : P.info? e = some i) (h3 : i.zero = some z) (h4 : i.size = 1) (h5 : z.cells = #[z])
    (kl kc : IntKind) (L C : Int) (n m : Nat) (hl : a.eval l = .int kl L) (hc : a.eval c = .int kc C) (hL : L = (n : Int)) (hC : C = (m : Int)) (hnm : n ≤ m) (b2 : i.bytes * m ≤ 281474976710656) (b3 : m ≤ 9223372036854775807)
    (hK : ∀ w', Hid (w'.heap[w.heap.size]? = some (.cells (zeros m z).toArray e (0, 0))) → w'.heap.size = w.heap.size + 1 → Below w.heap.size w w' → wpList P ops Q rest (a.put o.dst (.slice (some ⟨w.heap.size, 0, none⟩) n m)) w') :
    wpList P ops Q (o :: rest) a w := by
  refine wpList_plain hg fun K hK' => ?_
  subst hL
  subst hC
  have hb' : (i.bytes : Int) * (m : Int) ≤ 281474976710656 := by
    have h : ((i.bytes * m : Nat) : Int) ≤ 281474976710656 := by omega
    rwa [Int.natCast_mul] at h
  have hrun := run_make (P := P) w t e i z h1 h2 h3 kl kc (n : Int) (m : Int) (by omega) (by omega) hb' (by omega)
  have e1 : madeCells z.cells ((m : Int).toNat * i.size) = (List.replicate m z).toArray := by
    rw [h4, h5, Nat.mul_one, Int.toNat_natCast]
    apply Array.ext'
    rw [toList_madeCells_one]
  rw [e1, Int.toNat_natCast, Int.toNat_natCast] at hrun
  unfold Oper.wp
  simp only [execOp, hop, hl, hc, hrun, Sem.run_bind, Sem.run_pure, Result.andThen_ok]
  exact hK' _ _ (hK _ (heap_alloc_new w _) (by simp) ((Below.refl _ _).alloc (Nat.le_refl _) _))

/-- Behind the copy the row holds the numbers. -/
theorem row_spliced {w : World} {g n : Nat} {e : TypeId} {z : Value} {xs : List Int} (hn : xs.length = n) (hg : g < w.heap.size)
    (h : w.heap[g]? = some (.cells (splice (zeros n z) 0 (xs.map (Value.int .u8))).toArray e (0, 0))) : RowAt w (some ⟨g, 0, none⟩) n n xs := by
  refine ⟨hn, Nat.le_refl _, fun _ => ⟨g, 0, rfl, hg, fun i hi => ?_⟩⟩
  have hi' : i < xs.length := by omega
  have hs : splice (zeros n z) 0 (xs.map (Value.int .u8)) = xs.map (Value.int .u8) := by
    simp only [splice, zeros, List.take_zero, List.nil_append, List.length_map, Nat.zero_add, hn]
    rw [List.drop_of_length_le (by simp), List.append_nil]
  rw [hs] at h
  simp only [World.cell?, h, Nat.zero_add]
  simp [List.getD, List.getElem?_eq_getElem hi']

theorem add_cells {w : World} {b off : Nat} {cs : List Value} (h : ∀ j v, cs[j]? = some v → w.cell? ⟨b, off + j, none⟩ = some v) : ∀ j v, cs[j]? = some v → w.cell? ((⟨b, off, none⟩ : Addr).add j) = some v := by
  intro j v hj
  rw [Go.WideShapes.add_plain]; exact h j v hj

/-! ### Prefixes -/
/-- 'ok', and the first i of W are the first i of R. -/
def pre (ok : Bool) (R W : List Int) (i : Nat) : Prop := ok = true ∧ i ≤ R.length ∧ ∀ j, j < i → R.getD j 0 = W.getD j 0

theorem pre_succ {ok : Bool} {R W : List Int} {i : Nat} {t : List Int} (h : pre ok R W i) (hd : R.drop i = W.getD i 0 :: t) : pre ok R W (i + 1) ∧ R.drop (i + 1) = t := by
  have hi : i < R.length := by
    rcases Nat.lt_or_ge i R.length with h' | h'
    · exact h'
    · rw [List.drop_of_length_le h'] at hd; cases hd
  rw [List.drop_eq_getElem_cons hi] at hd
  injection hd with h1 h2
  refine ⟨⟨h.1, by omega, fun j hj => ?_⟩, h2⟩
  rcases Nat.lt_or_ge j i with hj' | hj'
  · exact h.2.2 j hj'
  · have : j = i := by omega
    subst this
    rw [← h1]
    simp [List.getD, List.getElem?_eq_getElem hi]

theorem pre_of_succ {ok : Bool} {R W : List Int} {i : Nat} (h : pre ok R W (i + 1)) : pre ok R W i ∧ ∃ t, R.drop i = W.getD i 0 :: t := by
  refine ⟨⟨h.1, by have := h.2.1; omega, fun j hj => h.2.2 j (by omega)⟩, R.drop (i + 1), ?_⟩
  have hi : i < R.length := by have := h.2.1; omega
  rw [List.drop_eq_getElem_cons hi]
  congr 1
  rw [← h.2.2 i (by omega)]
  simp [List.getD, List.getElem?_eq_getElem hi]

theorem pre_le {ok : Bool} {R W : List Int} {i j : Nat} (h : pre ok R W i) (hj : j ≤ i) : pre ok R W j := ⟨h.1, by have := h.2.1; omega, fun k hk => h.2.2 k (by omega)⟩
end Go.Proofs.Qxb6623378a
