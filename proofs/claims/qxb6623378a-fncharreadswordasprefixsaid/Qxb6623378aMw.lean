/-
  'FnCharReadsWordAsPrefix' (function 3): the walk.
-/
import Derived.Test.Qxb6623378aSm
namespace Go.Proofs.Qxb6623378a
open Go.ChangeShapes Go.WideShapes Go.ChangeAt Go.RowKit

theorem info5 : (Try.prog.info? 5).map (fun i => (i.zero, i.size, i.bytes)) = some (some (.int .u8 0), 1, 1) := by kernel_rfl

/-- Numbers as cells. -/
def nums (R : List Int) : List Value := R.map (Value.int .u8)
theorem nums_length (R : List Int) : (nums R).length = R.length := by simp [nums]
theorem nums_one (R : List Int) : ∀ u ∈ nums R, u.oneCell' = true := ints_oneCell .u8 R
theorem nums_cells {w w1 : World} {ao : Option Addr} {n c : Nat} {R : List Int} (hR : RowAt w ao n c R) (hb : Below w.heap.size w w1) (h : 0 < (nums R).length) :
    ∃ ad, ao = some ad ∧ ∀ j v, (nums R)[j]? = some v → w1.cell? (ad.add j) = some v := by
  have hl := hR.len
  rw [nums_length] at h
  obtain ⟨b, off, hao, hbl, hc⟩ := hR.at' (by omega)
  refine ⟨_, hao, add_cells fun j v hj => ?_⟩
  rw [hb.cell (p := ⟨b, off + j, none⟩) hbl]
  have hjl : j < R.length := by
    have := (List.getElem?_eq_some_iff.1 hj).1
    rw [nums_length] at this
    exact this
  rw [hc j (by omega)]
  simp [nums, List.getElem?_eq_getElem hjl] at hj
  rw [← hj]
  simp [List.getD, List.getElem?_eq_getElem hjl]

theorem pre_step {ok : Bool} {R W : List Int} {j : Nat} (h : pre ok R W j) (hj : j + 1 ≤ R.length) (he : R.getD j 0 = W.getD j 0) : pre ok R W (j + 1) := by
  refine ⟨h.1, hj, fun k hk => ?_⟩
  rcases Nat.lt_or_ge k j with h' | h'
  · exact h.2.2 k h'
  · rw [show k = j by omega]; exact he

/-- The first loop. -/
def Rel1 (w : World) (ok : Bool) (R W : List Int) (m : Nat) (rv kv iv : Value) (wr : World) : Prop :=
  ∃ (i : Nat) (ro : Option Addr) (nn cc : Nat) (xs : List Int) (k : Bool), i ≤ m ∧ iv = .int .i64 i ∧ rv = .slice ro nn cc ∧ kv = .bool k ∧ RowAt wr ro nn cc xs ∧ Below w.heap.size w wr ∧
    (k = true → pre ok R W i ∧ xs = R.drop i) ∧ (k = false → ¬ pre ok R W i)

/-- The second loop. -/
def Rel2 (w : World) (R W : List Int) (m : Nat) (ro : Option Addr) (nn cc : Nat) (xs : List Int) (ao : Option Addr) (n c : Nat) (bo : Option Addr) (d : Nat) (bv jv : Value) (wq : World) : Prop :=
  ∃ (j : Nat) (b : Bool), j ≤ m ∧ jv = .int .i64 j ∧ bv = .bool b ∧ RowAt wq ro nn cc xs ∧ RowAt wq ao n c R ∧ RowAt wq bo m d W ∧ Below w.heap.size w wq ∧ (b = true → pre true R W j) ∧ (b = false → ¬ pre true R W m)

theorem next_pre {ok k k' : Bool} {R W xs xs' : List Int} {i : Nat} (hk1 : k = true → pre ok R W i ∧ xs = R.drop i) (hk0 : k = false → ¬ pre ok R W i)
    (hs1 : k' = true → k = true ∧ xs = W.getD i 0 :: xs') (hs0 : k' = false → ¬ (k = true ∧ ∃ t, xs = W.getD i 0 :: t)) :
    (k' = true → pre ok R W (i + 1) ∧ xs' = R.drop (i + 1)) ∧ (k' = false → ¬ pre ok R W (i + 1)) := by
  refine ⟨fun h => ?_, fun h hp => ?_⟩
  · obtain ⟨h1, h2⟩ := hs1 h
    obtain ⟨h3, h4⟩ := hk1 h1
    obtain ⟨h5, h6⟩ := pre_succ h3 (h4.symm.trans h2)
    exact ⟨h5, h6.symm⟩
  · obtain ⟨h1, t, h2⟩ := pre_of_succ hp
    have hk : k = true := by
      cases k with
      | true => rfl
      | false => exact absurd h1 (hk0 rfl)
    exact hs0 h ⟨hk, t, (hk1 hk).2.trans h2⟩

theorem RowAt.drewN {w : World} {ao : Option Addr} {n c : Nat} {xs : List Int} (h : RowAt w ao n c xs) (q : Nat) : RowAt (w.drewN q) ao n c xs := ⟨h.len, h.le, h.at'⟩

/-- 'rest[m:]'. -/
theorem row_drop {w : World} {ao ao' : Option Addr} {n c m : Nat} {R : List Int} (h : RowAt w ao n c R) (hm : m ≤ n) (hao : m < n → ao' = ao.map (·.add m)) : RowAt w ao' (n - m) (c - m) (R.drop m) := by
  have hl := h.len
  have hle := h.le
  refine ⟨by rw [List.length_drop, hl], by omega, fun hp => ?_⟩
  obtain ⟨b, off, rfl, hb, hc⟩ := h.at' (by omega)
  refine ⟨b, off + m, by rw [hao (by omega)]; exact congrArg some (Go.WideShapes.add_plain _ _ _), hb, fun i hi => ?_⟩
  rw [Nat.add_assoc, hc (m + i) (by omega)]
  simp [List.getD, List.getElem?_drop]

end Go.Proofs.Qxb6623378a
