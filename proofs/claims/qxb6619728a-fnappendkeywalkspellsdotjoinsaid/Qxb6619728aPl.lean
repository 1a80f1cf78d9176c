/-
  PLAIN LAWS, no walk: key paths folded over a list of segments ('fk'), sizes, rows of bytes as cells.
-/
import Derived.Test.Qxb6619728aKp
import Derived.Lib.AppendStr
import Derived.Laws.IdiomStrings
namespace Go.Proofs.Qxb6619728a
open Go.RowKit

theorem kpS (a b : ByteArray) : (kp a b).size ≤ a.size + b.size + 1 := by
  unfold kp
  split
  · omega
  · have : (⟨#[46]⟩ : ByteArray).size = 1 := rfl
    simp only [ByteArray.size_append]; omega

theorem emp_of_size (a : ByteArray) (h : a.size = 0) : a.toList.isEmpty = true := by
  rw [ByteArray.toList_eq, List.isEmpty_iff, ← List.length_eq_zero_iff, Array.length_toList, ByteArray.size_data]; exact h

theorem nemp_of_size (a : ByteArray) (h : 0 < a.size) : a.toList.isEmpty = false := by
  rw [ByteArray.toList_eq, List.isEmpty_eq_false_iff, ← List.length_pos_iff, Array.length_toList, ByteArray.size_data]; exact h

theorem size_of_emp (a : ByteArray) (h : a.toList.isEmpty = true) : a.size = 0 := by
  rcases Nat.eq_zero_or_pos a.size with e | e
  · exact e
  · rw [nemp_of_size a e] at h; cases h

theorem kp_e (a b : ByteArray) (h : a.size = 0) : kp a b = b := if_pos (emp_of_size a h)
theorem kp_n (a b : ByteArray) (h : 0 < a.size) : kp a b = a ++ ⟨#[46]⟩ ++ b := if_neg (by rw [nemp_of_size a h]; decide)

theorem kp_posL (a b : ByteArray) (h : 0 < a.size) : 0 < (kp a b).size := by
  rw [kp_n a b h]; simp only [ByteArray.size_append]; omega
theorem kp_posR (a b : ByteArray) (h : 0 < b.size) : 0 < (kp a b).size := by
  rcases Nat.eq_zero_or_pos a.size with e | e
  · rw [kp_e a b e]; exact h
  · exact kp_posL a b e

/-- The key path of a walk through the segments L, from the top. -/
def fk (L : List ByteArray) : ByteArray := L.foldl kp ByteArray.empty
/-- What the segments weigh: their bytes, and one for each. -/
def wt (L : List ByteArray) : Nat := (L.map fun s => s.size + 1).sum

theorem wt_cons (s : ByteArray) (L : List ByteArray) : wt (s :: L) = s.size + 1 + wt L := by simp [wt]
theorem wt_snoc (L : List ByteArray) (s : ByteArray) : wt (L ++ [s]) = wt L + (s.size + 1) := by simp [wt]
theorem wt_append (L M : List ByteArray) : wt (L ++ M) = wt L + wt M := by simp [wt]
theorem wt_len (L : List ByteArray) : L.length ≤ wt L := by
  induction L with
  | nil => simp [wt]
  | cons s L ih => rw [wt_cons]; simp; omega

theorem take_snoc (L : List ByteArray) (k : Nat) (h : k < L.length) : L.take (k + 1) = L.take k ++ [L.getD k ByteArray.empty] := by
  rw [List.take_succ_eq_append_getElem h]
  simp [List.getD, List.getElem?_eq_getElem h]

theorem wt_take_succ (L : List ByteArray) (k : Nat) (h : k < L.length) : wt (L.take (k + 1)) = wt (L.take k) + ((L.getD k ByteArray.empty).size + 1) := by
  rw [take_snoc L k h, wt_snoc]

theorem wt_take_le (L : List ByteArray) (k : Nat) : wt (L.take k) ≤ wt L := by
  have h := wt_append (L.take k) (L.drop k)
  rw [List.take_append_drop] at h
  omega

theorem wt_getD (L : List ByteArray) (k : Nat) (h : k < L.length) : wt (L.take k) + (L.getD k ByteArray.empty).size + 1 ≤ wt L := by
  have h1 := wt_take_succ L k h
  have h2 := wt_take_le L (k + 1)
  omega

theorem fk_snoc (L : List ByteArray) (s : ByteArray) : fk (L ++ [s]) = kp (fk L) s := by simp [fk]
theorem fk_take_succ (L : List ByteArray) (k : Nat) (h : k < L.length) : fk (L.take (k + 1)) = kp (fk (L.take k)) (L.getD k ByteArray.empty) := by
  rw [take_snoc L k h, fk_snoc]

theorem foldl_size (L : List ByteArray) : ∀ a : ByteArray, (L.foldl kp a).size ≤ a.size + wt L := by
  induction L with
  | nil => intro a; simp [wt]
  | cons s L ih =>
    intro a
    have h1 := ih (kp a s)
    have h2 := kpS a s
    rw [wt_cons]
    simp only [List.foldl_cons]
    omega
theorem fk_size (L : List ByteArray) : (fk L).size ≤ wt L := by
  have h := foldl_size L ByteArray.empty
  have e : ByteArray.empty.size = 0 := rfl
  unfold fk
  omega

theorem fk_cons (a : ByteArray) (L : List ByteArray) : fk (a :: L) = L.foldl kp a := by
  have e : kp ByteArray.empty a = a := kp_e _ _ rfl
  simp [fk, e]

theorem foldl_pos (L : List ByteArray) : ∀ a : ByteArray, 0 < a.size → 0 < (L.foldl kp a).size := by
  induction L with
  | nil => intro a h; exact h
  | cons s L ih => intro a h; exact ih _ (kp_posL a s h)

/-- A first segment that is not empty: from it on the path is not empty. -/
theorem fk_pos (L : List ByteArray) (f j : Nat) (hf : f < L.length) (hj : f < j) (h : 0 < (L.getD f ByteArray.empty).size) : 0 < (fk (L.take j)).size := by
  have e : L.take j = L.take (f + 1) ++ (L.take j).drop (f + 1) := by
    have := List.take_append_drop (f + 1) (L.take j)
    rw [List.take_take, Nat.min_eq_left (by omega)] at this
    exact this.symm
  rw [e]
  unfold fk
  rw [List.foldl_append]
  refine foldl_pos _ _ ?_
  have := fk_take_succ L f hf
  unfold fk at this
  rw [this]
  exact kp_posR _ _ h

/-- Empty segments alone: the path is empty. -/
theorem fk_none (L : List ByteArray) (f : Nat) (h : ∀ i, i < f → (L.getD i ByteArray.empty).size = 0) : (fk (L.take f)).size = 0 := by
  induction f with
  | zero => simp [fk]
  | succ f ih =>
    have ih' := ih fun i hi => h i (by omega)
    by_cases hf : f < L.length
    · rw [fk_take_succ L f hf, kp_e _ _ ih']; exact h f (by omega)
    · rw [List.take_of_length_le (by omega)]
      rw [List.take_of_length_le (by omega)] at ih'
      exact ih'

/-! ### Bytes as cells -/
theorem strCells_append (a b : ByteArray) : Lib.strCells (a ++ b) = Lib.strCells a ++ Lib.strCells b := by
  simp [Lib.strCells, ByteArray.data_append]

theorem strCells_dot : Lib.strCells ⟨#[46]⟩ = [Value.int .u8 46] := by simp [Lib.strCells]
theorem strCells_empty (a : ByteArray) (h : a.size = 0) : Lib.strCells a = [] := by
  apply List.eq_nil_of_length_eq_zero; rw [Lib.strCells_length]; exact h
theorem eq_empty (a : ByteArray) (h : a.size = 0) : a = ByteArray.empty := by
  apply ByteArray.ext
  apply Array.eq_empty_of_size_eq_zero
  rw [ByteArray.size_data]; exact h

/-- 'string(b)', b a row of the call's own whose cells are the bytes s. -/
theorem conv_own {P : Program} {w : World} {base src dst e : TypeId} {v : Value} (s : ByteArray) (hs : P.underlying src = some (.slice e)) (he : P.underlying e = some (.int .u8)) (hd : P.underlying dst = some .string)
    (h : w.ownsRow base e 1 v s.size (Lib.strCells s)) : (convert src dst v).run P w = .ok (.string s) w := by
  rcases h.2 with ⟨rfl, h0⟩ | ⟨g, cap, cur, rfl, _, _⟩
  · rw [run_convert_bytes_string w src dst e none 0 0 hs he hd, eq_empty s h0]
    rfl
  · have hc := h.cells (g := g) rfl
    have hl : s.data.toList.length = s.size := by rw [Array.length_toList, ByteArray.size_data]
    have := run_convert_bytes_back (P := P) w src dst e ⟨g, 0, none⟩ cap s.data.toList hs he hd (fun j hj => hc j _ (by simp [Lib.strCells, List.getElem?_eq_getElem hj]))
    rw [hl] at this
    exact this
end Go.Proofs.Qxb6619728a
