/-
  The walk of FnContainsFindsEveryElement (function 5).
-/
import Derived.Test.Qxb6602259aReads
import Derived.Laws.CopyOwn
import Derived.OpenShut
namespace Go.Proofs.Qxb6602259a.Finds
open Go.RowKit Go.ChangeShapes Reads

theorem info9 : (Try.prog.info? 9).map (fun i => (i.zero, i.size, i.bytes)) = some (some (.string ByteArray.empty), 1, 16) := by kernel_rfl

/-- A slice of strings that came in: nil, or a row of 'cap' cells, the strings 'ss' (the first 'len' are its elements). -/
def IsStrs (w : World) (a : Option Addr) (len cap : Nat) (ss : List ByteArray) : Prop :=
  (a = none ∧ len = 0 ∧ cap = 0 ∧ ss = []) ∨
  ∃ x, a = some x ∧ len ≤ cap ∧ cap ≤ maxLen ∧ ss.length = cap ∧ (∀ i, i < ss.length → w.cell? (x.add i) = some (.string (ss.getD i ByteArray.empty))) ∧ ∀ s ∈ ss, s.size ≤ maxLen

theorem add_at (b off i : Nat) : (⟨b, off, none⟩ : Addr).add i = ⟨b, off + i, none⟩ := by
  unfold Addr.add
  split <;> simp_all

theorem row_of {w : World} {a : Option Addr} {len cap : Nat} {ss : List ByteArray} (h : IsStrs w a len cap ss) : Row w a len ss := by
  rcases h with ⟨_, rfl, _⟩ | ⟨x, rfl, hl, hm, hz, hc, _⟩
  · exact .inl rfl
  · by_cases h0 : len = 0
    · exact .inl h0
    · obtain ⟨b, off, spot⟩ := x
      have hc0 := hc 0 (by omega)
      have hspot : spot = none := by simpa [Addr.add] using World.cell?_spot hc0
      subst hspot
      exact .inr ⟨b, off, rfl, by omega, fun i hi => by have := hc i (by omega); rwa [add_at] at this⟩

theorem len_of {w : World} {a : Option Addr} {len cap : Nat} {ss : List ByteArray} (h : IsStrs w a len cap ss) : len ≤ 9223372036854775807 := by
  rcases h with ⟨_, rfl, _⟩ | ⟨x, rfl, hl, hm, _⟩
  · omega
  · unfold maxLen at hm; omega

theorem block_of_owns {w : World} {base g n : Nat} {e : TypeId} {xs : List Value} (h : w.ownsRow base e 1 (.slice (some ⟨g, 0, none⟩) n n) n xs) :
    w.heap[g]? = some (.cells xs.toArray e (0, 0)) := by
  obtain ⟨h1, h2⟩ := h
  rcases h2 with ⟨h2, _⟩ | ⟨g', cap, cur, hv, _, hh, _, _, hs, ht⟩
  · simp at h2
  · simp at hv
    obtain ⟨rfl, rfl⟩ := hv
    rw [List.take_of_length_le (by simp; omega)] at ht
    rw [hh, ← ht]

/-- The cells of the copy. -/
def cellsOf (ss : List ByteArray) (len : Nat) : List Value := (ss.take len).map Value.string

theorem length_cellsOf (ss : List ByteArray) (len : Nat) (h : len ≤ ss.length) : (cellsOf ss len).length = len := by simp [cellsOf]; omega

theorem get_cellsOf (ss : List ByteArray) (len i : Nat) (h : len ≤ ss.length) (hi : i < len) : (cellsOf ss len)[i]? = some (.string (ss.getD i ByteArray.empty)) := by
  have hk : i < ss.length := by omega
  simp [cellsOf, hi, List.getD_eq_getElem?_getD, List.getElem?_eq_getElem hk]

theorem get_cellsOf' (ss : List ByteArray) (len i : Nat) (v : Value) (h : len ≤ ss.length) (hv : (cellsOf ss len)[i]? = some v) : i < len ∧ v = .string (ss.getD i ByteArray.empty) := by
  have hi : i < len := by
    have := (List.getElem?_eq_some_iff.1 hv).1
    rwa [length_cellsOf ss len h] at this
  rw [get_cellsOf ss len i h hi] at hv
  exact ⟨hi, by simpa using hv.symm⟩

theorem one_cellsOf (ss : List ByteArray) (len : Nat) : ∀ v ∈ cellsOf ss len, v.oneCell' = true := by
  intro v hv
  simp only [cellsOf, List.mem_map] at hv
  obtain ⟨s, _, rfl⟩ := hv
  rfl

theorem splice_all {cur cs : List Value} (h : cs.length = cur.length) : splice cur 0 cs = cs := by
  simp [splice, h]

theorem row_made {w : World} {g len : Nat} {ss : List ByteArray} {cur : List Value} {t : TypeId} (hl : len ≤ ss.length) (hcur : cur.length = len)
    (hg : w.heap[g]? = some (.cells (splice cur 0 (cellsOf ss len)).toArray t (0, 0))) : Row w (some ⟨g, 0, none⟩) len ss := by
  rw [splice_all (by rw [length_cellsOf ss len hl, hcur])] at hg
  refine .inr ⟨g, 0, rfl, hl, fun i hi => ?_⟩
  rw [cell_of_row w g (0 + i) _ _ _ hg, Nat.zero_add]
  simpa using get_cellsOf ss len i hl hi

set_option maxHeartbeats 1000000 in
theorem walk (a0 : Option Addr) (len0 cap0 : Nat) (z0 : List ByteArray) (a1 : Int) (w : World) (w0 : IsStrs w a0 len0 cap0 z0) (w1 : (Lit.int .i64 a1).wf = true) :
    Calls Try.prog 5 #[.slice a0 len0 cap0, .int .i64 a1] w fun e w' => e = .returned (.bool true) ∧ Below w.heap.size w w' := by
  have hrow := row_of w0
  have hlen := len_of w0
  go_enter Try.func5, Try.ntmps5
  go_wp2_with fail
  refine (bytes15_any a0 len0 cap0 z0 a1 _ hlen hrow).mono ?_
  rintro e w' ⟨⟨b, rfl⟩, rfl⟩
  cases b
  · go_wp2_with fail
    go_ret
    exact ⟨rfl, Below.refl _ _⟩
  by_cases hbig : (65536 : Int) < (len0 : Int)
  · go_wp2_with fail
    go_ret
    exact ⟨rfl, Below.refl _ _⟩
  go_wp2_with fail
  refine (size_any a0 len0 cap0 z0 0 _ hlen hrow).mono ?_
  rintro e w' ⟨⟨n, rfl⟩, rfl⟩
  by_cases hn : 1048576 < n
  · go_wp2_with fail
    go_ret
    exact ⟨rfl, Below.refl _ _⟩
  by_cases hk0 : a1 < 0
  · go_wp2_with fail
    go_ret
    exact ⟨rfl, Below.refl _ _⟩
  obtain ⟨k, rfl⟩ := Int.eq_ofNat_of_zero_le (by omega : 0 ≤ a1)
  by_cases hkl : (len0 : Int) ≤ (k : Int)
  · go_wp2_with fail
    go_ret
    exact ⟨rfl, Below.refl _ _⟩
  rcases w0 with ⟨_, rfl, _⟩ | ⟨x, rfl, hl, hm, hz, hc, _⟩
  · omega
  have q : ∀ (w : World) (a : Option Addr) (n c : Nat), (binOp .neq 22 (.slice a n c) (.slice none 0 0)).run Try.prog w = .ok (.bool (!a.isNone)) w := fun w a n c => run_neq_slice_nil_any w 22 9 a n c 0 0 Try.underlying22
  obtain ⟨i0, hi, hz0, hz1, hz2⟩ := info_parts info9
  have hL : len0 ≤ z0.length := by omega
  have hcl := length_cellsOf z0 len0 hL
  clear hm hrow
  go_wp2_with (at_make; refine wpList_make_full _ rfl _ _ 22 rfl w.heap.size 9 i0 (.string ByteArray.empty) 1 Try.underlying22 hi hz0 hz1 .i64 .i64 _ _ len0 rfl rfl rfl rfl ?b2 ?b3 ?b4 ?_)
  case b2 => rw [hz2]; omega
  case b3 => unfold maxLen; omega
  case b4 => exact Nat.le_refl _
  intro w1 hown hgrow
  obtain ⟨cur, HG, HC⟩ : ∃ cur : List Value, Hid (w1.heap[w.heap.size]? = some (.cells cur.toArray 9 (0, 0))) ∧ Hid (cur.length = len0) :=
    ⟨_, block_of_owns hown, show _ = _ by have := hown.1; simpa using this⟩
  have hb1 : Below w.heap.size w w1 := (Below.refl _ _).grown hgrow (Nat.le_refl _) (by simp)
  have hsz : (Try.prog.info? 9).map (·.size) = some 1 := by rw [hi]; simp [hz1]
  clear hown hgrow
  have HR : Hid (∀ i, i < len0 → w1.cell? (x.add i) = some (.string (z0.getD i ByteArray.empty))) := fun i hlt => by
    have h := hc i (by omega)
    exact cell_later hb1 h
  clear hc
  go_wp2_with (refine wpList_copy_splice rfl (.tmp 29) (.tmp 30) 22 22 rfl 9 Try.underlying22 hsz _ _ _ _ _ _ rfl rfl w.heap.size 0 cur 9 HG.out (cellsOf z0 len0) ?n ?pos ?fit ?one w.heap.size w hb1 (Nat.le_refl _) ?_)
  case n => rw [hcl]; exact (Nat.min_self _).symm
  case pos => exact fun _ j v hv => by obtain ⟨hj, rfl⟩ := get_cellsOf' z0 len0 j v hL hv; exact HR.out j hj
  case fit => rw [hcl, HC.out]; omega
  case one => exact one_cellsOf z0 len0
  intro w2 HG2 hb2
  have hrow2 := row_made hL HC.out HG2.out
  have hck : w2.cell? ⟨w.heap.size, k, none⟩ = some (.string (z0.getD k ByteArray.empty)) := by
    have hg := HG2.out
    rw [splice_all (by rw [hcl, HC.out])] at hg
    rw [cell_of_row w2 _ k _ _ _ hg]
    simpa using get_cellsOf z0 len0 k hL (by omega)
  have HH : Hid (has (z0.take len0) (z0.getD k ByteArray.empty) = true) := has_hit z0 (z0.getD k ByteArray.empty) k len0 (by omega) hL (by simp)
  clear HR HG HC hb1 HG2 hcl
  generalize z0.getD k ByteArray.empty = s at hck HH
  go_wp2_with fail
  refine (zzcontains_any _ len0 len0 z0 s w2 hlen hrow2).mono ?_
  rintro e w3 ⟨rfl, rfl⟩
  go_wp2_with fail
  go_ret
  exact ⟨by rw [HH.out]; rfl, hb2⟩

end Go.Proofs.Qxb6602259a.Finds
