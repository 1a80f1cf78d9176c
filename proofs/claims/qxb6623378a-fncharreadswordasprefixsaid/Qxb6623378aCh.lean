/-
  'ZZChar' (function 5), walked into 'char' (function 7).
-/
import Derived.Test.Qxb6623378aRows
import Derived.WalkKit
import Derived.ProofKit
import Derived.OpenShut
import Derived.WalkLawsBesides
import Derived.Outline
import Derived.Deep.QuietTactic
import Derived.BigQuiet
namespace Go.Proofs.Qxb6623378a
open Go.ChangeShapes Go.WideShapes Go.ChangeAt Go.RowKit

/-- A '[]byte' of the numbers xs: where it has an element it has an address. -/
structure RowAt (w : World) (ao : Option Addr) (n c : Nat) (xs : List Int) : Prop where
  len : xs.length = n
  le : n ≤ c
  at' : 0 < n → ∃ b off, ao = some ⟨b, off, none⟩ ∧ b < w.heap.size ∧ ∀ i, i < n → w.cell? ⟨b, off + i, none⟩ = some (.int .u8 (xs.getD i 0))

set_option maxHeartbeats 400000 in
theorem zzChar_false (ro : Option Addr) (n c : Nat) (b : Int) (w : World) :
    Calls Try.prog 5 #[.slice ro n c, .bool false, .int .u8 b] w fun e w' => e = .returned (.tuple #[.slice ro n c, .bool false]) ∧ Below w.heap.size w w' := by
  go_enter Try.func5, Try.ntmps5
  go_wp2
  go_end0
  go_wp2
  go_quiet (fail)
  go_wp2
  go_ret2
  exact ⟨rfl, below_drewN ((Below.refl _ _).alloc (Nat.le_refl _) _) _⟩

set_option maxHeartbeats 400000 in
theorem zzChar_empty (ro : Option Addr) (c : Nat) (b : Int) (w : World) :
    Calls Try.prog 5 #[.slice ro 0 c, .bool true, .int .u8 b] w fun e w' => e = .returned (.tuple #[.slice ro 0 c, .bool false]) ∧ Below w.heap.size w w' := by
  go_enter Try.func5, Try.ntmps5
  go_wp2
  go_end0
  go_wp2
  go_quiet (fail)
  go_wp2
  go_ret2
  exact ⟨rfl, below_drewN ((Below.refl _ _).alloc (Nat.le_refl _) _) _⟩

set_option maxHeartbeats 400000 in
theorem zzChar_miss (g off : Nat) (n c : Nat) (x b : Int) (w : World) (hn : 0 < n) (hg : g < w.heap.size) (hc : w.cell? ⟨g, off, none⟩ = some (.int .u8 x)) (hx : (x == b) = false) :
    Calls Try.prog 5 #[.slice (some ⟨g, off, none⟩) n c, .bool true, .int .u8 b] w fun e w' => e = .returned (.tuple #[.slice (some ⟨g, off, none⟩) n c, .bool false]) ∧ Below w.heap.size w w' := by
  have hne : ¬ g = w.heap.size := by omega
  go_enter Try.func5, Try.ntmps5
  go_wp2
  go_end0
  go_wp2
  go_quiet (fail)
  go_wp2
  go_ret2
  exact ⟨rfl, below_drewN ((Below.refl _ _).alloc (Nat.le_refl _) _) _⟩

set_option maxHeartbeats 400000 in
theorem zzChar_hit1 (g off : Nat) (b : Int) (w : World) (hg : g < w.heap.size) (hc : w.cell? ⟨g, off, none⟩ = some (.int .u8 b)) :
    Calls Try.prog 5 #[.slice (some ⟨g, off, none⟩) 1 1, .bool true, .int .u8 b] w fun e w' => e = .returned (.tuple #[.slice (some ⟨g, off, none⟩) 0 0, .bool true]) ∧ Below w.heap.size w w' := by
  go_enter Try.func5, Try.ntmps5
  go_wp2
  go_end0
  go_wp2
  go_quiet (fail)
  go_wp2
  go_ret2
  exact ⟨rfl, below_drewN ((Below.refl _ _).alloc (Nat.le_refl _) _) _⟩

set_option maxHeartbeats 400000 in
theorem zzChar_hit2 (g off : Nat) (n c : Nat) (b : Int) (w : World) (hn : 0 < n) (_hnc : n ≤ c) (hc1 : ¬ c = 1) (hg : g < w.heap.size) (hc : w.cell? ⟨g, off, none⟩ = some (.int .u8 b)) :
    Calls Try.prog 5 #[.slice (some ⟨g, off, none⟩) n c, .bool true, .int .u8 b] w fun e w' => e = .returned (.tuple #[.slice (some ⟨g, off + 1, none⟩) (n - 1) (c - 1), .bool true]) ∧ Below w.heap.size w w' := by
  go_enter Try.func5, Try.ntmps5
  go_wp2
  go_end0
  go_wp2
  go_quiet (fail)
  go_wp2
  go_ret2
  exact ⟨rfl, below_drewN ((Below.refl _ _).alloc (Nat.le_refl _) _) _⟩

/-- What one 'char' leaves. -/
def Stepped (k : Bool) (xs : List Int) (b : Int) (w : World) (e : Ending) (w' : World) : Prop :=
  ∃ ro' n' c' xs' k', e = .returned (.tuple #[.slice ro' n' c', .bool k']) ∧ RowAt w' ro' n' c' xs' ∧ Below w.heap.size w w' ∧ (k' = true → k = true ∧ xs = b :: xs') ∧ (k' = false → ¬ (k = true ∧ ∃ t, xs = b :: t))

theorem RowAt.later {w w' : World} {ao : Option Addr} {n c : Nat} {xs : List Int} (h : RowAt w ao n c xs) {B : Nat} (hB : w.heap.size ≤ B) (hb : Below B w w') : RowAt w' ao n c xs := by
  refine ⟨h.len, h.le, fun hn => ?_⟩
  obtain ⟨b, off, hao, hbl, hc⟩ := h.at' hn
  exact ⟨b, off, hao, Nat.lt_of_lt_of_le hbl hb.size, fun i hi => by rw [hb.cell (p := ⟨b, off + i, none⟩) (Nat.lt_of_lt_of_le hbl hB)]; exact hc i hi⟩

theorem zzChar_any (ro : Option Addr) (n c : Nat) (xs : List Int) (k : Bool) (b : Int) (w : World) (hr : RowAt w ro n c xs) :
    Calls Try.prog 5 #[.slice ro n c, .bool k, .int .u8 b] w (Stepped k xs b w) := by
  cases k with
  | false =>
    refine (zzChar_false ro n c b w).mono ?_
    rintro e w' ⟨he, hb⟩
    exact ⟨ro, n, c, xs, false, he, hr.later (Nat.le_refl _) hb, hb, (fun h => by cases h), fun _ h => by cases h.1⟩
  | true =>
    rcases xs with _ | ⟨x, xs⟩
    · have hn : n = 0 := by have := hr.len; simpa using this.symm
      subst hn
      refine (zzChar_empty ro c b w).mono ?_
      rintro e w' ⟨he, hb⟩
      exact ⟨ro, 0, c, [], false, he, hr.later (Nat.le_refl _) hb, hb, (fun h => by cases h), fun _ h => by obtain ⟨_, t, h⟩ := h; cases h⟩
    · have hlen : xs.length + 1 = n := by have := hr.len; simpa using this
      have hle := hr.le
      obtain ⟨g, off, rfl, hg, hc⟩ := hr.at' (by omega)
      have hc0 : w.cell? ⟨g, off, none⟩ = some (.int .u8 x) := by have := hc 0 (by omega); simpa using this
      by_cases hx : x = b
      · subst hx
        by_cases hc1 : c = 1
        · have hn1 : n = 1 := by omega
          subst hc1 hn1
          refine (zzChar_hit1 g off x w hg hc0).mono ?_
          rintro e w' ⟨he, hb⟩
          exact ⟨_, 0, 0, xs, true, he, ⟨by omega, Nat.le_refl _, fun h => absurd h (Nat.lt_irrefl 0)⟩, hb, fun _ => ⟨rfl, rfl⟩, fun h => by cases h⟩
        · refine (zzChar_hit2 g off n c x w (by omega) hle hc1 hg hc0).mono ?_
          rintro e w' ⟨he, hb⟩
          refine ⟨_, n - 1, c - 1, xs, true, he, ⟨by omega, by omega, fun _ => ⟨g, off + 1, rfl, Nat.lt_of_lt_of_le hg hb.size, fun i hi => ?_⟩⟩, hb, fun _ => ⟨rfl, rfl⟩, fun h => by cases h⟩
          rw [hb.cell (p := ⟨g, off + 1 + i, none⟩) hg]
          have := hc (i + 1) (by omega)
          rw [show off + 1 + i = off + (i + 1) by omega, this]
          rfl
      · refine (zzChar_miss g off n c x b w (by omega) hg hc0 (by simpa using hx)).mono ?_
        rintro e w' ⟨he, hb⟩
        exact ⟨_, n, c, x :: xs, false, he, hr.later (Nat.le_refl _) hb, hb, (fun h => by cases h), fun _ h => by obtain ⟨_, t, h⟩ := h; cases h; exact hx rfl⟩
end Go.Proofs.Qxb6623378a
