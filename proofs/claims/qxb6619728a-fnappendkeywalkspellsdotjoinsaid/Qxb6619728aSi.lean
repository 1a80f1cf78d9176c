/-
  'FnAppendKeySiblingsSpellFromOneRoom' (function 6): its guard, its walk.
-/
import Derived.Test.Qxb6619728aAk
import Derived.Laws.CopyOwn
namespace Go.Proofs.Qxb6619728a
open Go.ChangeShapes Go.WideShapes Go.ChangeAt Go.RowKit

/-- A '[]byte' that came in, of the bytes s: where it has a byte it has an address. -/
def BytesAt (w : World) (ao : Option Addr) (s : ByteArray) : Prop :=
  0 < s.size → ∃ b off, ao = some ⟨b, off, none⟩ ∧ b < w.heap.size ∧ ∀ j v, (Lib.strCells s)[j]? = some v → w.cell? ⟨b, off + j, none⟩ = some v

/-- 'string(b)', b a slice that came in. -/
theorem conv_arg {P : Program} {w : World} {src dst e : TypeId} {ao : Option Addr} {cap : Nat} (s : ByteArray) (hs : P.underlying src = some (.slice e)) (he : P.underlying e = some (.int .u8)) (hd : P.underlying dst = some .string)
    (h : BytesAt w ao s) : (convert src dst (.slice ao s.size cap)).run P w = .ok (.string s) w := by
  rcases Nat.eq_zero_or_pos s.size with h0 | h0
  · rw [h0, run_convert_bytes_string w src dst e ao 0 cap hs he hd, eq_empty s h0]
    cases ao <;> simp [Conv.bytesToString, loadCells]
    all_goals rfl
  · obtain ⟨b, off, rfl, _, hc⟩ := h h0
    have hl : s.data.toList.length = s.size := by rw [Array.length_toList, ByteArray.size_data]
    have := run_convert_bytes_back (P := P) w src dst e ⟨b, off, none⟩ cap s.data.toList hs he hd (fun j hj => by
      rw [Go.WideShapes.add_plain]; exact hc j _ (by simp [Lib.strCells, List.getElem?_eq_getElem hj]))
    rw [hl] at this
    exact this

/-- A row of m zeros. -/
def zeros (m : Nat) (z : Value) : List Value := List.replicate m z
/-- 'make([]T, n, m)', n and m variables: a new row of m zeros. -/
theorem wpList_make_room {P : Program} (w : World) {ops : Array Oper} {rest : List Oper} {o : Oper} {a : Act} {Q : Exit → Act → World → Prop}
    (hg : o.guard = none) (l c : Operand) (t : TypeId) (hop : o.op = Op.makeSlice t l c)
    (e : TypeId) (i : TypeInfo) (z : Value) (h1 : P.underlying t = some (.slice e)) (h2 : P.info? e = some i) (h3 : i.zero = some z) (h4 : i.size = 1) (h5 : z.cells = #[z])
    (kl kc : IntKind) (L C : Int) (n m : Nat) (hl : a.eval l = .int kl L) (hc : a.eval c = .int kc C) (hL : L = (n : Int)) (hC : C = (m : Int)) (hnm : n ≤ m) (b2 : i.bytes * m ≤ 281474976710656) (b3 : m ≤ 9223372036854775807)
    (hK : ∀ w', Hid (w'.heap[w.heap.size]? = some (.cells (zeros m z).toArray e (0, 0))) → w'.heap.size = w.heap.size + 1 → Below w.heap.size w w' → wpList P ops Q rest (a.put o.dst (.slice (some ⟨w.heap.size, 0, none⟩) n m)) w') :
    wpList P ops Q (o :: rest) a w := by
  refine wpList_plain hg fun K hK' => ?_
  subst hL
  subst hC
  have hb' : (i.bytes : Int) * (m : Int) ≤ 281474976710656 := by
    have h : ((i.bytes * m : Nat) : Int) ≤ 281474976710656 := by omega
    rwa [Int.natCast_mul] at h
  have hrun := run_make (P := P) w t e i z h1 h2 h3 kl kc (n : Int) (m : Int) (by omega) (by omega) hb' (by omega)
  have e1 : madeCells z.cells ((m : Int).toNat * i.size) = (List.replicate m z).toArray := by
    rw [h4, h5, Nat.mul_one, Int.toNat_natCast]
    apply Array.ext'
    rw [toList_madeCells_one]
  rw [e1, Int.toNat_natCast, Int.toNat_natCast] at hrun
  unfold Oper.wp
  simp only [execOp, hop, hl, hc, hrun, Sem.run_bind, Sem.run_pure, Result.andThen_ok]
  exact hK' _ _ (hK _ (heap_alloc_new w _) (by simp) ((Below.refl _ _).alloc (Nat.le_refl _) _))

/-- Behind the copy the row owns the bytes. -/
theorem own_spliced {w : World} {g m base : Nat} {e : TypeId} {z : Value} {cs : List Value} {n : Nat} (hn : cs.length = n) (hnm : n ≤ m) (hm : m ≤ maxLen) (hbg : base ≤ g)
    (h : w.heap[g]? = some (.cells (splice (zeros m z) 0 cs).toArray e (0, 0))) : w.ownsRow base e 1 (.slice (some ⟨g, 0, none⟩) n m) n cs := by
  refine ⟨by omega, .inr ⟨g, m, _, rfl, hbg, h, hnm, hm, ?_, ?_⟩⟩
  · simp only [splice, zeros, List.size_toArray, List.length_append, List.length_take, List.length_drop, List.length_replicate]; omega
  · simp only [splice, List.take_zero, List.nil_append, Nat.mul_one]
    rw [← hn, List.take_left]

set_option maxHeartbeats 400000 in
theorem bytes14 (ao : Option Addr) (n cap : Nat) (k1 k2 : ByteArray) (w : World) (hn : n ≤ 9223372036854775807) (h1 : k1.size ≤ 9223372036854775807) (h2 : k2.size ≤ 9223372036854775807) :
    Calls Try.prog 14 #[.slice ao n cap, .string k1, .string k2] w fun e w' => (∃ r, e = .returned (.bool r)) ∧ w' = w := by
  go_enter Try.func14, Try.ntmps14
  go_wp2
  all_goals
    go_ret
    exact ⟨⟨_, rfl⟩, rfl⟩

set_option maxHeartbeats 400000 in
theorem si_out (ao : Option Addr) (n cap : Nat) (k1 k2 : ByteArray) (w : World) (hn : n ≤ 9223372036854775807) (h1 : k1.size ≤ 9223372036854775807) (h2 : k2.size ≤ 9223372036854775807)
    (h : ¬ (n ≤ 262144 ∧ k1.size ≤ 262144 ∧ k2.size ≤ 262144)) :
    Calls Try.prog 6 #[.slice ao n cap, .string k1, .string k2] w fun e w' => e = .returned (.bool true) ∧ Below w.heap.size w w' := by
  go_enter Try.func6, Try.ntmps6
  go_wp2_with fail
  refine (bytes14 ao n cap k1 k2 w hn h1 h2).mono ?_
  rintro e w' ⟨⟨r, rfl⟩, hw'⟩
  subst hw'
  cases r with
  | false =>
    go_wp2
    go_ret
    exact ⟨rfl, Below.refl _ _⟩
  | true =>
    by_cases c1 : n ≤ 262144
    · by_cases c2 : k1.size ≤ 262144
      · have c3 : ¬ k2.size ≤ 262144 := by omega
        clear h
        go_wp2
        go_ret
        exact ⟨rfl, Below.refl _ _⟩
      · clear h
        go_wp2
        go_ret
        exact ⟨rfl, Below.refl _ _⟩
    · clear h
      go_wp2
      go_ret
      exact ⟨rfl, Below.refl _ _⟩

theorem kp_bare (s k : ByteArray) : kp s ⟨#[]⟩ ++ k = kp s k := by
  rcases Nat.eq_zero_or_pos s.size with h | h
  · rw [kp_e _ _ h, kp_e _ _ h]; exact ByteArray.empty_append
  · rw [kp_n _ _ h, kp_n _ _ h]
    congr 1
    exact ByteArray.append_empty

theorem add_cells {w : World} {b off : Nat} {cs : List Value} (h : ∀ j v, cs[j]? = some v → w.cell? ⟨b, off + j, none⟩ = some v) : ∀ j v, cs[j]? = some v → w.cell? ((⟨b, off, none⟩ : Addr).add j) = some v := by
  intro j v hj
  rw [Go.WideShapes.add_plain]; exact h j v hj

set_option maxHeartbeats 800000 in
theorem si_main (s : ByteArray) (ao : Option Addr) (cap : Nat) (k1 k2 : ByteArray) (w : World) (hs : s.size ≤ 262144) (h1 : k1.size ≤ 262144) (h2 : k2.size ≤ 262144) (ha : BytesAt w ao s) :
    Calls Try.prog 6 #[.slice ao s.size cap, .string k1, .string k2] w fun e w' => e = .returned (.bool true) ∧ Below w.heap.size w w' := by
  obtain ⟨i5, hi5, hy0, hy1, hy2⟩ := info_parts infoB
  have hcv : ∀ c, (convert 27 9 (.slice ao s.size c)).run Try.prog w = .ok (.string s) w := fun c => conv_arg s Try.underlying27 Try.underlying5 Try.underlying9 ha
  go_enter Try.func6, Try.ntmps6
  go_wp2_with fail
  refine (bytes14 ao s.size cap k1 k2 w (by omega) (by omega) (by omega)).mono ?_
  rintro e w' ⟨⟨r, rfl⟩, hw'⟩
  subst hw'
  cases r with
  | false =>
    go_wp2
    go_ret
    exact ⟨rfl, Below.refl _ _⟩
  | true =>
    go_wp2_with (at_make; refine wpList_make_room _ rfl _ _ 27 rfl 5 i5 (.int .u8 0) Try.underlying27 hi5 hy0 hy1 rfl _ _ _ _ s.size (s.size + 1 + k1.size + k2.size) rfl rfl rfl ?b0 ?b1 ?b2 ?b3 ?_)
    case b0 => omega
    case b1 => omega
    case b2 => rw [hy2]; omega
    case b3 => omega
    intro w1 hg1 hz1 hb1
    clear hcv
    go_wp2_with (refine wpList_copy_splice rfl (.tmp 40) (.tmp 41) 27 27 rfl 5 Try.underlying27 (by rw [hi5]; exact congrArg some hy1) _ _ _ _ _ _ rfl rfl w'.heap.size 0 _ 5 hg1.out (Lib.strCells s) ?c1 ?c2 ?c3 ?c4 w'.heap.size w' hb1 (Nat.le_refl _) ?_)
    case c1 => rw [Lib.strCells_length]; exact (Nat.min_self _).symm
    case c2 =>
      intro h
      rw [Lib.strCells_length] at h
      obtain ⟨b, off, hao, hbl, hc⟩ := ha h
      exact ⟨_, hao, add_cells fun j v hj => by rw [hb1.cell (p := ⟨b, off + j, none⟩) hbl]; exact hc j v hj⟩
    case c3 => rw [Lib.strCells_length]; simp only [zeros, List.length_replicate]; omega
    case c4 => exact Lib.strCells_oneCell s
    intro w2 hg2 hb2
    have hown := own_spliced (base := w'.heap.size) (Lib.strCells_length s) (show s.size ≤ s.size + 1 + k1.size + k2.size by omega) (by unfold maxLen; omega) (Nat.le_refl _) hg2.out
    have hz2 : w'.heap.size ≤ w2.heap.size := hb2.size
    clear hg1 hz1 hb1 hg2 ha
    obtain ⟨m, hm⟩ : ∃ m, m = s.size + 1 + k1.size + k2.size := ⟨_, rfl⟩
    rw [← hm] at hown ⊢
    have hm1 : s.size + 1 + k1.size ≤ m := by omega
    have hm2 : s.size + 1 + k2.size ≤ m := by omega
    clear hm
    have he : (⟨#[]⟩ : ByteArray).size = 0 := rfl
    have q1 : ((kp s k1).toList == (kp s ⟨#[]⟩ ++ k1).toList) = true := by rw [kp_bare]; exact beq_self_eq_true _
    have q2 : ((kp s k2).toList == (kp s ⟨#[]⟩ ++ k2).toList) = true := by rw [kp_bare]; exact beq_self_eq_true _
    have q3 : (kp s ⟨#[]⟩).size ≤ 600000 := by have := kpS s ⟨#[]⟩; omega
    go_wp2_with fail
    refine (zzAppendKey_room s ⟨#[]⟩ w'.heap.size m w'.heap.size _ hown (by omega) hz2).mono ?_
    rintro e w3 ⟨rfl, ho3, hb3⟩
    have cv3 := conv_own (P := Try.prog) (src := 27) (dst := 9) (kp s ⟨#[]⟩) Try.underlying27 Try.underlying5 Try.underlying9 ho3
    have hown3 := own_head s ⟨#[]⟩ ho3
    have hb3' := hb2.trans hb3
    have hz3 : w'.heap.size ≤ w3.heap.size := hb3'.size
    clear hown hb2 ho3 hb3 he
    go_wp2_with fail
    refine (zzAppendKey_room s k1 w'.heap.size m w'.heap.size _ hown3 (by omega) hz3).mono ?_
    rintro e w4 ⟨rfl, ho4, hb4⟩
    have cv4 := conv_own (P := Try.prog) (src := 27) (dst := 9) (kp s k1) Try.underlying27 Try.underlying5 Try.underlying9 ho4
    have hown4 := own_head s k1 ho4
    have hb4' := hb3'.trans hb4
    have hz4 : w'.heap.size ≤ w4.heap.size := hb4'.size
    clear hown3 hb3' ho4 hb4 cv3
    go_wp2_with fail
    refine (zzAppendKey_room s k2 w'.heap.size m w'.heap.size _ hown4 (by omega) hz4).mono ?_
    rintro e w5 ⟨rfl, ho5, hb5⟩
    have cv5 := conv_own (P := Try.prog) (src := 27) (dst := 9) (kp s k2) Try.underlying27 Try.underlying5 Try.underlying9 ho5
    have hown5 := own_head s k2 ho5
    have cv6 := conv_own (P := Try.prog) (src := 27) (dst := 9) s Try.underlying27 Try.underlying5 Try.underlying9 hown5
    have hb5' := hb4'.trans hb5
    clear hown4 hb4' ho5 hb5 cv4
    go_wp2_with (go_at_call 8; refine (keyPath_any _ _ _ (by omega)).mono ?_; rintro e w6 ⟨rfl, rfl⟩)
    go_ret
    exact ⟨rfl, hb5'⟩
end Go.Proofs.Qxb6619728a
