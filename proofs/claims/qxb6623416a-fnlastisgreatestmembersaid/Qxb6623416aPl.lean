/-
  Make and copy as laws; the plain law; the loops' relations; the guard (4).
-/
import Derived.Test.Qxb6623416aSt
namespace Go.Proofs.Qxb6623416a
open Go.ChangeShapes Go.WideShapes Go.ChangeAt Go.RowKit

theorem info24 : (Try.prog.info? 24).map (fun i => (i.zero, i.size, i.bytes)) = some (some (.int .u64 0), 1, 8) := by kernel_rfl

/-- A row of m zeros. -/
def zeros (m : Nat) (z : Value) : List Value := List.replicate m z
/-- 'make([]T, n)', n a variable: a new row of n zeros. -/
theorem wpList_make_room {P : Program} (w : World) {ops : Array Oper} {rest : List Oper} {o : Oper} {a : Act} {Q : Exit → Act → World → Prop}
    (hg : o.guard = none) (l c : Operand) (t : TypeId) (hop : o.op = Op.makeSlice t l c)
    (e : TypeId) (i : TypeInfo) (z : Value) (h1 : P.underlying t = some (.slice e)) (h2 : P.info? e = some i) (h3 : i.zero = some z) (h4 : i.size = 1) (h5 : z.cells = #[z])
    (kl kc : IntKind) (L C : Int) (n m : Nat) (hl : a.eval l = .int kl L) (hc : a.eval c = .int kc C) (hL : L = (n : Int)) (hC : C = (m : Int)) (hnm : n ≤ m) (b2 : i.bytes * m ≤ 281474976710656) (b3 : m ≤ 9223372036854775807)
    (hK : ∀ w', Hid (w'.heap[w.heap.size]? = some (.cells (zeros m z).toArray e (0, 0))) → w'.heap.size = w.heap.size + 1 → Below w.heap.size w w' → wpList P ops Q rest (a.put o.dst (.slice (some ⟨w.heap.size, 0, none⟩) n m)) w') :
    wpList P ops Q (o :: rest) a w := by
  refine wpList_plain hg fun K hK' => ?_
  subst hL
  subst hC
  have hb' : (i.bytes : Int) * (m : Int) ≤ 281474976710656 := by
    have h : ((i.bytes * m : Nat) : Int) ≤ 281474976710656 := by omega
    rwa [Int.natCast_mul] at h
  have hrun := run_make (P := P) w t e i z h1 h2 h3 kl kc (n : Int) (m : Int) (by omega) (by omega) hb' (by omega)
  have e1 : madeCells z.cells ((m : Int).toNat * i.size) = (List.replicate m z).toArray := by
    rw [h4, h5, Nat.mul_one, Int.toNat_natCast]
    apply Array.ext'
    rw [toList_madeCells_one]
  rw [e1, Int.toNat_natCast, Int.toNat_natCast] at hrun
  unfold Oper.wp
  simp only [execOp, hop, hl, hc, hrun, Sem.run_bind, Sem.run_pure, Result.andThen_ok]
  exact hK' _ _ (hK _ (heap_alloc_new w _) (by simp) ((Below.refl _ _).alloc (Nat.le_refl _) _))

/-- Numbers as cells. -/
def nums (R : List Int) : List Value := R.map (Value.int .u64)
theorem nums_length (R : List Int) : (nums R).length = R.length := by simp [nums]
theorem nums_one (R : List Int) : ∀ u ∈ nums R, u.oneCell' = true := ints_oneCell .u64 R
theorem add_cells {w : World} {b off : Nat} {cs : List Value} (h : ∀ j v, cs[j]? = some v → w.cell? ⟨b, off + j, none⟩ = some v) : ∀ j v, cs[j]? = some v → w.cell? ((⟨b, off, none⟩ : Addr).add j) = some v := by
  intro j v hj
  rw [Go.WideShapes.add_plain]; exact h j v hj
theorem nums_cells {w w1 : World} {ao : Option Addr} {n c : Nat} {R : List Int} (hR : RowAt w ao n c R) (hb : Below w.heap.size w w1) (h : 0 < (nums R).length) :
    ∃ ad, ao = some ad ∧ ∀ j v, (nums R)[j]? = some v → w1.cell? (ad.add j) = some v := by
  have hl := hR.len
  rw [nums_length] at h
  obtain ⟨b, off, hao, hbl, hc⟩ := hR.at' (by omega)
  refine ⟨_, hao, add_cells fun j v hj => ?_⟩
  rw [hb.cell (p := ⟨b, off + j, none⟩) hbl]
  have hjl : j < R.length := by
    have := (List.getElem?_eq_some_iff.1 hj).1
    rw [nums_length] at this
    exact this
  rw [hc j (by omega)]
  simp [nums, List.getElem?_eq_getElem hjl] at hj
  rw [← hj]
  simp [List.getD, List.getElem?_eq_getElem hjl]

/-- Behind the copy the row holds the numbers. -/
theorem row_spliced {w0 w : World} {ao : Option Addr} {c g n : Nat} {e : TypeId} {z : Value} {xs : List Int} (hR : RowAt w0 ao n c xs)
    (h : w.heap[g]? = some (.cells (splice (zeros n z) 0 (nums xs)).toArray e (0, 0))) : RowAt w (some ⟨g, 0, none⟩) n n xs := by
  have hn := hR.len
  have hg : g < w.heap.size := by
    rcases Nat.lt_or_ge g w.heap.size with h' | h'
    · exact h'
    · rw [Array.getElem?_eq_none h'] at h; cases h
  refine ⟨hn, Nat.le_refl _, hR.bd, fun _ => ⟨g, 0, rfl, hg, fun i hi => ?_⟩⟩
  have hi' : i < xs.length := by omega
  have hs : splice (zeros n z) 0 (nums xs) = xs.map (Value.int .u64) := by
    simp only [splice, zeros, nums, List.take_zero, List.nil_append, List.length_map, Nat.zero_add, hn]
    rw [List.drop_of_length_le (by simp), List.append_nil]
  rw [hs] at h
  simp only [World.cell?, h, Nat.zero_add]
  simp [List.getD, List.getElem?_eq_getElem hi']

/-- 'Last' of n intervals, n > 0. -/
theorem last_at (s : ByteArray) (g n p : Nat) (r : Int) (w : World) (hp : Hid (n = p + 1)) (hn : n ≤ 131072) (hg : g < w.heap.size) (hc : w.cell? ⟨g, p * 2 + 1, none⟩ = some (.int .u64 r)) :
    Calls Try.prog 6 #[.agg #[.string s, .slice (some ⟨g, 0, none⟩) n n]] w fun e w' => e = .returned (.int .u64 r) ∧ Below w.heap.size w w' := by
  have e : n = p + 1 := hp.out
  clear hp
  subst e
  exact last_some s g p r w (by omega) hg hc

/-! ### The plain law -/
/-- The first i intervals are well formed, sorted, apart. -/
def Good (F L : List Int) (i : Nat) : Prop := (∀ j, j < i → F.getD j 0 ≤ L.getD j 0) ∧ (∀ j, j + 1 < i → L.getD j 0 < F.getD (j + 1) 0)
theorem Good.zero (F L : List Int) : Good F L 0 := ⟨fun _ h => absurd h (Nat.not_lt_zero _), fun _ h => absurd h (Nat.not_lt_zero _)⟩
theorem Good.one {F L : List Int} (h : F.getD 0 0 ≤ L.getD 0 0) : Good F L 1 := ⟨fun j hj => by rw [show j = 0 by omega]; exact h, fun j hj => by omega⟩
theorem Good.succ {F L : List Int} {p : Nat} (h : Good F L (p + 1)) (h1 : F.getD (p + 1) 0 ≤ L.getD (p + 1) 0) (h2 : L.getD p 0 < F.getD (p + 1) 0) : Good F L (p + 1 + 1) := by
  refine ⟨fun j hj => ?_, fun j hj => ?_⟩
  · rcases Nat.lt_or_ge j (p + 1) with h' | h'
    · exact h.1 j h'
    · rw [show j = p + 1 by omega]; exact h1
  · rcases Nat.lt_or_ge (j + 1) (p + 1) with h' | h'
    · exact h.2 j h'
    · rw [show j = p by omega]; exact h2
theorem Good.mono {F L : List Int} {n : Nat} (h : Good F L n) (q : Nat) : ∀ j, j + q < n → L.getD j 0 ≤ L.getD (j + q) 0 := by
  induction q with
  | zero => intro j _; exact Int.le_refl _
  | succ q ih =>
    intro j hj
    have h1 := ih j (by omega)
    have h2 := h.2 (j + q) (by omega)
    have h3 := h.1 (j + q + 1) (by omega)
    have e : j + (q + 1) = j + q + 1 := by omega
    rw [e]
    omega
theorem Good.le_last {F L : List Int} {p : Nat} (h : Good F L (p + 1)) (j : Nat) (hj : j < p + 1) : L.getD j 0 ≤ L.getD p 0 := by
  have := h.mono (p - j) j (by omega)
  rw [show j + (p - j) = p by omega] at this
  exact this

/-- The first loop. -/
def Rel1 (w : World) (fo : Option Addr) (n c : Nat) (F : List Int) (lo : Option Addr) (d : Nat) (L : List Int) (iv : Value) (wr : World) : Prop :=
  ∃ i : Nat, i ≤ n ∧ iv = .int .i64 i ∧ RowAt wr fo n c F ∧ RowAt wr lo n d L ∧ Below w.heap.size w wr ∧ Good F L i

/-- The second loop: 'inSet' is true once the last interval is behind. -/
def Rel2 (n : Nat) (bv iv : Value) : Prop := ∃ (i : Nat) (b : Bool), i ≤ n ∧ iv = .int .i64 i ∧ bv = .bool b ∧ (i = n → b = true)

set_option maxHeartbeats 400000 in
theorem bytes4 (s : ByteArray) (ao : Option Addr) (n c : Nat) (bo : Option Addr) (m d : Nat) (w : World) (hs : s.size ≤ 9223372036854775807) (hn : n ≤ 9223372036854775807) (hm : m ≤ 9223372036854775807) :
    Calls Try.prog 4 #[.string s, .slice ao n c, .slice bo m d] w fun e w' => (∃ r, e = .returned (.bool r)) ∧ w' = w := by
  go_enter Try.func4, Try.ntmps4
  go_wp2
  all_goals
    go_ret
    exact ⟨⟨_, rfl⟩, rfl⟩
end Go.Proofs.Qxb6623416a
