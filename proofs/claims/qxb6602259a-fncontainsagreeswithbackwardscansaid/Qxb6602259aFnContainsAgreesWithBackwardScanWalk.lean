/-
  The walk of FnContainsAgreesWithBackwardScan (function 3).
-/
import Derived.Test.Qxb6602259aSame
import Derived.Test.Qxb6602259aFnContainsFindsEveryElementWalk
namespace Go.Proofs.Qxb6602259a.Agrees
open Go.RowKit Go.ChangeShapes Reads Finds

theorem below_drawn {B : Nat} {a w : World} (h : Below B a w) (n : Nat) : Below B a (w.drewN n) := h.trans ⟨rfl, rfl, rfl, Nat.le_refl _, fun _ _ => rfl⟩

theorem row_drew {w : World} {a : Option Addr} {len : Nat} {ss : List ByteArray} (n : Nat) (h : Row w a len ss) : Row (w.drewN n) a len ss := h

theorem zzcontains_is (b : Bool) (a : Option Addr) (len cap : Nat) (ss : List ByteArray) (s : ByteArray) (w : World) (hm : len ≤ 9223372036854775807) (hrow : Row w a len ss) (hb : has (ss.take len) s = b) :
    Calls Try.prog 13 #[.slice a len cap, .string s] w fun e w' => e = .returned (.bool b) ∧ w = w' := by
  subst hb
  exact zzcontains_any a len cap ss s w hm hrow

/-- The elements from place 'q' on. -/
def from_ (ss : List ByteArray) (len : Nat) (s : ByteArray) (q : Int) : Bool := has ((ss.take len).drop q.toNat) s

theorem from_len (ss : List ByteArray) (len : Nat) (s : ByteArray) (hl : len ≤ ss.length) : from_ ss len s ((len : Int) - 1 + 1) = false := by
  unfold from_
  rw [show ((len : Int) - 1 + 1).toNat = len from by omega, List.drop_of_length_le (by rw [List.length_take]; omega)]
  rfl

theorem from_zero (ss : List ByteArray) (len : Nat) (s : ByteArray) : from_ ss len s (-1 + 1) = has (ss.take len) s := by
  unfold from_
  rfl

theorem from_step (ss : List ByteArray) (len : Nat) (s : ByteArray) (j : Nat) (hj : j < len) (hl : len ≤ ss.length) :
    from_ ss len s ((j : Int) - 1 + 1) = (((ss.getD j ByteArray.empty).toList == s.toList) || from_ ss len s ((j : Int) + 1)) := by
  unfold from_
  have hk : j < (ss.take len).length := by rw [List.length_take]; omega
  have hk' : j < ss.length := by omega
  rw [show ((j : Int) - 1 + 1).toNat = j from by omega, show ((j : Int) + 1).toNat = j + 1 from by omega, List.drop_eq_getElem_cons hk]
  have e : ss.getD j ByteArray.empty = (ss.take len)[j] := by
    rw [List.getElem_take, List.getD_eq_getElem?_getD, List.getElem?_eq_getElem hk']; rfl
  rw [e]
  rfl

theorem size_getD {ss : List ByteArray} (h : ∀ s ∈ ss, s.size ≤ maxLen) (j : Nat) : (ss.getD j ByteArray.empty).size ≤ 9223372036854775807 := by
  by_cases hj : j < ss.length
  · have := h (ss.getD j ByteArray.empty) (by rw [List.getD_eq_getElem?_getD, List.getElem?_eq_getElem hj]; exact List.getElem_mem hj)
    unfold maxLen at this
    omega
  · rw [List.getD_eq_getElem?_getD, List.getElem?_eq_none (by omega)]
    exact Nat.zero_le _

set_option maxHeartbeats 1000000 in
theorem walk (a0 : Option Addr) (len0 cap0 : Nat) (z0 : List ByteArray) (a1 : ByteArray) (w : World) (w0 : IsStrs w a0 len0 cap0 z0) (w1 : a1.size ≤ maxLen) :
    Calls Try.prog 3 #[.slice a0 len0 cap0, .string a1] w fun e w' => e = .returned (.bool true) ∧ Below w.heap.size w w' := by
  have hrow := row_of w0
  have hlen := len_of w0
  unfold maxLen at w1
  go_enter Try.func3, Try.ntmps3
  go_wp2_with fail
  refine (bytes10_any a0 len0 cap0 z0 a1 _ hlen w1 hrow).mono ?_
  rintro e w' ⟨⟨b, rfl⟩, rfl⟩
  cases b
  · go_wp2_with fail
    go_ret
    exact ⟨rfl, Below.refl _ _⟩
  by_cases hbig : (65536 : Int) < (len0 : Int)
  · go_wp2_with fail
    go_ret
    exact ⟨rfl, Below.refl _ _⟩
  by_cases hbs : (1048576 : Int) < (a1.size : Int)
  · go_wp2_with fail
    go_ret
    exact ⟨rfl, Below.refl _ _⟩
  go_wp2_with fail
  refine (size_any a0 len0 cap0 z0 _ _ hlen hrow).mono ?_
  rintro e w' ⟨⟨n, rfl⟩, rfl⟩
  by_cases hn : 1048576 < n
  · go_wp2_with fail
    go_ret
    exact ⟨rfl, Below.refl _ _⟩
  have q : ∀ (w : World) (a : Option Addr) (n c : Nat), (binOp .neq 22 (.slice a n c) (.slice none 0 0)).run Try.prog w = .ok (.bool (!a.isNone)) w := fun w a n c => run_neq_slice_nil_any w 22 9 a n c 0 0 Try.underlying22
  rcases w0 with ⟨rfl, rfl, rfl, rfl⟩ | ⟨x, rfl, hl, hm, hz, hc, hss⟩
  · go_wp2_with fail
    refine wp_loop_rounds 1 ?_
    rw [rounds_succ]
    go_wp2_with fail
    refine (zzcontains_is false none 0 0 [] a1 _ hlen (.inl rfl) rfl).mono ?_
    rintro e w3 ⟨rfl, rfl⟩
    go_wp2_with fail
    go_ret
    exact ⟨rfl, Below.refl _ _⟩
  obtain ⟨i0, hi, hz0, hz1, hz2⟩ := info_parts info9
  have hL : len0 ≤ z0.length := by omega
  have hcl := length_cellsOf z0 len0 hL
  clear hm hrow
  go_wp2_with (at_make; refine wpList_make_full _ rfl _ _ 22 rfl w.heap.size 9 i0 (.string ByteArray.empty) 1 Try.underlying22 hi hz0 hz1 .i64 .i64 _ _ len0 rfl rfl rfl rfl ?b2 ?b3 ?b4 ?_)
  case b2 => rw [hz2]; omega
  case b3 => unfold maxLen; omega
  case b4 => exact Nat.le_refl _
  intro w1 hown hgrow
  obtain ⟨cur, HG, HC⟩ : ∃ cur : List Value, Hid (w1.heap[w.heap.size]? = some (.cells cur.toArray 9 (0, 0))) ∧ Hid (cur.length = len0) :=
    ⟨_, block_of_owns hown, show _ = _ by have := hown.1; simpa using this⟩
  have hb1 : Below w.heap.size w w1 := (Below.refl _ _).grown hgrow (Nat.le_refl _) (by simp)
  have hsz : (Try.prog.info? 9).map (·.size) = some 1 := by rw [hi]; simp [hz1]
  clear hown hgrow
  have HR : Hid (∀ i, i < len0 → w1.cell? (x.add i) = some (.string (z0.getD i ByteArray.empty))) := fun i hlt => by
    have h := hc i (by omega)
    exact cell_later hb1 h
  clear hc
  go_wp2_with (refine wpList_copy_splice rfl (.tmp 30) (.tmp 31) 22 22 rfl 9 Try.underlying22 hsz _ _ _ _ _ _ rfl rfl w.heap.size 0 cur 9 HG.out (cellsOf z0 len0) ?n ?pos ?fit ?one w.heap.size w hb1 (Nat.le_refl _) ?_)
  case n => rw [hcl]; exact (Nat.min_self _).symm
  case pos => exact fun _ j v hv => by obtain ⟨hj, rfl⟩ := get_cellsOf' z0 len0 j v hL hv; exact HR.out j hj
  case fit => rw [hcl, HC.out]; omega
  case one => exact one_cellsOf z0 len0
  intro w2 HG2 hb2
  have hrow2 := row_made hL HC.out HG2.out
  have HK : Hid (∀ j, j < len0 → w2.cell? ⟨w.heap.size, j, none⟩ = some (.string (z0.getD j ByteArray.empty))) := by
    intro j hj
    have hg := HG2.out
    rw [splice_all (by rw [hcl, HC.out])] at hg
    rw [cell_of_row w2 _ j _ _ _ hg]
    simpa using get_cellsOf z0 len0 j hL hj
  have HS : Hid (∀ j, (z0.getD j ByteArray.empty).size ≤ 9223372036854775807) := size_getD hss
  clear HR HG HC hb1 HG2 hcl hss hi hz0 hz1 hz2 hsz hl hz
  go_wp2_with fail
  go_loopw [6, 7] (fun t i wr => ∃ q : Int, -1 ≤ q ∧ q < (len0 : Int) ∧ i = .int .i64 q ∧ t = .bool false ∧ (∃ n, wr = w2.drewN n) ∧ from_ z0 len0 a1 (q + 1) = false)
    (fun _ i _ => (intOf i + 1).toNat)
  case atStart => exact ⟨_, by omega, by omega, rfl, rfl, ⟨0, rfl⟩, from_len z0 len0 a1 hL⟩
  case round =>
    obtain ⟨q, hq1, hq2, rfl, rfl, ⟨n, rfl⟩, hno⟩ := hrel
    have HN : Hid (from_ z0 len0 a1 (q + 1) = false) := hno
    clear hno
    by_cases hq : 0 ≤ q
    · obtain ⟨j, rfl⟩ := Int.eq_ofNat_of_zero_le hq
      have hjl : j < len0 := by omega
      have hcx := HK.out j hjl
      have hsx := HS.out j
      have HF : Hid (from_ z0 len0 a1 ((j : Int) - 1 + 1) = (((z0.getD j ByteArray.empty).toList == a1.toList) || from_ z0 len0 a1 ((j : Int) + 1))) := from_step z0 len0 a1 j hjl hL
      have HH : Hid (((z0.getD j ByteArray.empty).toList == a1.toList) = true → has (z0.take len0) a1 = true) := has_hit z0 a1 j len0 hjl hL
      generalize z0.getD j ByteArray.empty = x at hcx hsx HF HH
      cases hx : (x.toList == a1.toList)
      · go_wp2_with fail
        refine (same_any x a1 _ hsx).mono ?_
        rintro e w3 ⟨rfl, n', rfl⟩
        go_wp2_with fail
        go_roundw
        case rel => exact ⟨_, by omega, by omega, rfl, rfl, ⟨n + n', by simp⟩, by rw [HF.out, HN.out, hx]; rfl⟩
        case measure => simp [intOf]
      · go_wp2_with fail
        refine (same_any x a1 _ hsx).mono ?_
        rintro e w3 ⟨rfl, n', rfl⟩
        go_wp2_with fail
        refine (zzcontains_is true _ len0 len0 z0 a1 _ hlen ?_ (HH.out hx)).mono ?_
        · exact row_drew _ hrow2
        rintro e w3 ⟨rfl, rfl⟩
        go_wp2_with fail
        go_ret
        exact ⟨rfl, below_drawn hb2 _⟩
    · obtain rfl : q = -1 := by omega
      have HX : Hid (has (z0.take len0) a1 = false) := HN.out
      go_wp2_with fail
      refine (zzcontains_is false _ len0 len0 z0 a1 _ hlen ?_ HX.out).mono ?_
      · exact row_drew _ hrow2
      rintro e w3 ⟨rfl, rfl⟩
      go_wp2_with fail
      go_ret
      exact ⟨rfl, below_drawn hb2 _⟩

end Go.Proofs.Qxb6602259a.Agrees
