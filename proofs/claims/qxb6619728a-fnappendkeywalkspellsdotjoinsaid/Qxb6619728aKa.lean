/-
  A '[]string' that came in, opened by 'open_strings', as 'KeysAt'.
-/
import Derived.Test.Qxb6619728aB7
import Derived.SliceStrings
namespace Go.Proofs.Qxb6619728a
open Go.ChangeShapes Go.WideShapes Go.ChangeAt Go.RowKit

theorem keys_at {W : World} {x : Addr} {len : Nat} {ss : List ByteArray} (hl : len ≤ ss.length) (h : ∀ i, i < ss.length → W.cell? (x.add i) = some (.string (ss.getD i ByteArray.empty))) (hs : ∀ s ∈ ss, s.size ≤ maxLen) :
    KeysAt W (some x) (ss.take len) := by
  intro i hi
  have hi' : i < len := by simp at hi; omega
  obtain ⟨b, off, spot⟩ := x
  have hspot : spot = none := by simpa [Addr.add] using World.cell?_spot (h 0 (by omega))
  subst hspot
  have hc := h i (by omega)
  rw [Go.WideShapes.add_plain] at hc
  have e : (ss.take len).getD i ByteArray.empty = ss.getD i ByteArray.empty := by
    simp [List.getD, hi']
  rw [e]
  refine ⟨b, off, rfl, World.block_lt_of_cell? _ _ hc, hc, ?_⟩
  have hm : ss.getD i ByteArray.empty ∈ ss := by
    have hil : i < ss.length := by omega
    simp [List.getD, List.getElem?_eq_getElem hil]
  have := hs _ hm
  unfold maxLen at this
  exact this

end Go.Proofs.Qxb6619728a
