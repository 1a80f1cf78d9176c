/-
  A '[]byte' that came in, as the frame hands it over ('IsRow'), as 'BytesAt'.
-/
import Derived.Test.Qxb6619728aSi
import Derived.OpenShut
namespace Go.Proofs.Qxb6619728a
open Go.ChangeShapes Go.WideShapes Go.ChangeAt Go.RowKit

/-- WHAT THE WALK IS TOLD OF A SLICE OF INTEGERS THAT CAME IN: it is nil; or it leads to a row of 'cap' cells, the numbers 'zs' (the first 'len' are its elements, the rest its spare room), each fitting its kind. -/
def IsRow (k : IntKind) (w : World) (a : Option Addr) (len cap : Nat) (zs : List Int) : Prop :=
  (a = none ∧ len = 0 ∧ cap = 0 ∧ zs = []) ∨
  ∃ x, a = some x ∧ len ≤ cap ∧ cap ≤ maxLen ∧ zs.length = cap ∧ (∀ i, i < zs.length → w.cell? (x.add i) = some (.int k (zs.getD i 0))) ∧ ∀ n ∈ zs, (Lit.int k n).wf = true

theorem strCells_nums (zs : List Int) (h : ∀ n ∈ zs, (Lit.int .u8 n).wf = true) : Lib.strCells (strOfNums zs) = zs.map (Value.int .u8) := by
  simp only [Lib.strCells, strOfNums_data, List.map_map]
  apply List.map_congr_left
  intro z hz
  have hb := bounds_u8 (h z hz)
  show Value.int .u8 _ = Value.int .u8 z
  congr 1
  simp only [UInt8.toNat_ofNat']
  omega

theorem bytes_of_row {w : World} {a : Option Addr} {len cap : Nat} {zs : List Int} (h : IsRow .u8 w a len cap zs) : ∃ s : ByteArray, s.size = len ∧ BytesAt w a s ∧ s.size ≤ maxLen := by
  rcases h with ⟨rfl, rfl, rfl, rfl⟩ | ⟨x, rfl, hlc, hcm, hzl, hcell, hwf⟩
  · exact ⟨ByteArray.empty, rfl, fun h => absurd h (Nat.lt_irrefl 0), Nat.zero_le _⟩
  · have hsz : (strOfNums (zs.take len)).size = len := by rw [strOfNums_size, List.length_take]; omega
    refine ⟨strOfNums (zs.take len), hsz, fun hp => ?_, by omega⟩
    obtain ⟨b, off, rfl, hc⟩ := ints_at hcell (by omega)
    refine ⟨b, off, rfl, World.block_lt_of_cell? _ _ (hc 0 (by omega)), fun j v hj => ?_⟩
    rw [strCells_nums _ (fun n hn => hwf n (List.mem_of_mem_take hn))] at hj
    have hjl : j < len := by
      have := (List.getElem?_eq_some_iff.1 hj).1
      simp at this
      omega
    rw [hc j (by omega)]
    have hjz : j < zs.length := by omega
    simp [hjl, List.getElem?_eq_getElem hjz] at hj
    rw [← hj]
    simp [List.getD, List.getElem?_eq_getElem hjz]
end Go.Proofs.Qxb6619728a
