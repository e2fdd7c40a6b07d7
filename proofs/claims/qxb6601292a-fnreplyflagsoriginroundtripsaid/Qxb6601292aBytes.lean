/-
  Slices of bytes of this program: what a slice holds ('Row'), and the contracts of zzBytes (4), cloneBytesWireB1 (5), sameBytesWireB1 (8).
-/
import Derived.Test.Qxb6601292aProg
import Derived.WalkKit
import Derived.WalkSpells
import Derived.Deep.QuietTactic
import Derived.BigQuiet
namespace Go.Proofs.Qxb6601292a.Bytes
open Go.RowKit

theorem info5 : (Try.prog.info? 5).map (fun i => (i.zero, i.size, i.bytes)) = some (some (.int .u8 0), 1, 1) := by kernel_rfl

/-- The first 'len' elements of the slice value at 'a' are the first bytes of 'xs'. -/
def Row (w : World) (a : Option Addr) (len : Nat) (xs : List Int) : Prop :=
  len = 0 ∨ ∃ b off, a = some ⟨b, off, none⟩ ∧ ∀ i, i < len → w.cell? ⟨b, off + i, none⟩ = some (.int .u8 (xs.getD i 0))

theorem Row.drew {w : World} {a : Option Addr} {len : Nat} {xs : List Int} (h : Row w a len xs) (n : Nat) : Row (w.drewN n) a len xs := h

theorem Row.later {w w' : World} {a : Option Addr} {len : Nat} {xs : List Int} (h : Row w a len xs) (hb : Below w.heap.size w w') : Row w' a len xs := by
  rcases h with h | ⟨b, off, rfl, hc⟩
  · exact .inl h
  · exact .inr ⟨b, off, rfl, fun i hi => cell_later hb (hc i hi)⟩

/-- Bytes as cells. -/
def ints (xs : List Int) : List Value := xs.map (Value.int .u8)

theorem length_ints (xs : List Int) : (ints xs).length = xs.length := by simp [ints]

theorem get_ints (xs : List Int) (i : Nat) (h : i < xs.length) : (ints xs)[i]? = some (.int .u8 (xs.getD i 0)) := by
  simp [ints, List.getD_eq_getElem?_getD, List.getElem?_eq_getElem h]

theorem get_ints' (xs : List Int) (i : Nat) (v : Value) (h : (ints xs)[i]? = some v) : i < xs.length ∧ v = .int .u8 (xs.getD i 0) := by
  have hi : i < xs.length := by
    have := (List.getElem?_eq_some_iff.1 h).1
    rwa [length_ints] at this
  rw [get_ints xs i hi] at h
  exact ⟨hi, by simpa using h.symm⟩

theorem one_ints (xs : List Int) : ∀ v ∈ ints xs, v.oneCell' = true := by
  intro v hv
  simp only [ints, List.mem_map] at hv
  obtain ⟨s, _, rfl⟩ := hv
  rfl

theorem add_at (b off i : Nat) : (⟨b, off, none⟩ : Addr).add i = ⟨b, off + i, none⟩ := by
  unfold Addr.add
  split <;> simp_all

/-- What is owned can be read. -/
theorem row_of_owns {w : World} {base n len cap : Nat} {ao : Option Addr} {xs : List Int} (h : w.ownsRow base 5 1 (.slice ao len cap) n (ints xs)) : Row w ao n xs := by
  obtain ⟨h1, h2⟩ := h
  rcases h2 with ⟨_, h2⟩ | ⟨g, cap', cur, hv, _, hh, hn, _, hs, ht⟩
  · exact .inl h2
  · simp only [Value.slice.injEq] at hv
    obtain ⟨rfl, rfl, rfl⟩ := hv
    rw [length_ints] at h1
    refine .inr ⟨g, 0, rfl, fun i hi => ?_⟩
    rw [cell_of_row w g (0 + i) _ _ _ hh, Nat.zero_add, ← Array.getElem?_toList]
    have := get_ints xs i (by omega)
    rw [← ht, List.getElem?_take, if_pos (by omega)] at this
    exact this

theorem owns_later {w w' : World} {base n size : Nat} {e : TypeId} {v : Value} {xs : List Value} (h : w.ownsRow base e size v n xs) (hb : Below w.heap.size w w') : w'.ownsRow base e size v n xs := by
  obtain ⟨h1, h2⟩ := h
  refine ⟨h1, ?_⟩
  rcases h2 with h2 | ⟨g, cap, cur, hv, hg, hh, r⟩
  · exact .inl h2
  · exact .inr ⟨g, cap, cur, hv, hg, by rw [hb.block g (lt_of_block hh)]; exact hh, r⟩

theorem owns_mono {w : World} {base base' n size : Nat} {e : TypeId} {v : Value} {xs : List Value} (h : w.ownsRow base e size v n xs) (hb : base' ≤ base) : w.ownsRow base' e size v n xs := by
  obtain ⟨h1, h2⟩ := h
  refine ⟨h1, ?_⟩
  rcases h2 with h2 | ⟨g, cap, cur, hv, hg, hh, r⟩
  · exact .inl h2
  · exact .inr ⟨g, cap, cur, hv, by omega, hh, r⟩

theorem block_of_owns {w : World} {base g n : Nat} {e : TypeId} {xs : List Value} (h : w.ownsRow base e 1 (.slice (some ⟨g, 0, none⟩) n n) n xs) :
    w.heap[g]? = some (.cells xs.toArray e (0, 0)) := by
  obtain ⟨h1, h2⟩ := h
  rcases h2 with ⟨h2, _⟩ | ⟨g', cap, cur, hv, _, hh, _, _, hs, ht⟩
  · simp at h2
  · simp at hv
    obtain ⟨rfl, rfl⟩ := hv
    rw [List.take_of_length_le (by simp; omega)] at ht
    rw [hh, ← ht]

theorem owns_of_block {w : World} {base g n : Nat} {e : TypeId} {xs : List Value} (h : w.heap[g]? = some (.cells xs.toArray e (0, 0))) (hb : base ≤ g) (hl : xs.length = n) (hm : n ≤ maxLen) :
    w.ownsRow base e 1 (.slice (some ⟨g, 0, none⟩) n n) n xs :=
  ⟨by omega, .inr ⟨g, n, xs.toArray, rfl, hb, h, Nat.le_refl _, hm, by simp [hl], by simp [List.take_of_length_le, hl]⟩⟩

theorem block_set {w : World} {g k : Nat} {L : List Value} {t : TypeId} (h : w.heap[g]? = some (.cells L.toArray t (0, 0))) (u : Value) :
    (w.setCell ⟨g, k, none⟩ u).heap[g]? = some (.cells (L.set k u).toArray t (0, 0)) := by
  have hlt := lt_of_block h
  have h' : w.heap[g] = .cells L.toArray t (0, 0) := by simpa [Array.getElem?_eq_getElem hlt] using h
  show (w.heap.modify g _)[g]? = _
  rw [Array.getElem?_eq_getElem (by simpa using hlt), Array.getElem_modify_self, h']
  simp [Array.setIfInBounds]
  exact fun h => (List.set_eq_of_length_le h).symm

set_option maxHeartbeats 400000 in
theorem same_true (a1 a2 : Option Addr) (len c1 c2 : Nat) (xs : List Int) (w : World) (hm : len ≤ 9223372036854775807) (h1 : Row w a1 len xs) (h2 : Row w a2 len xs) :
    Calls Try.prog 8 #[.slice a1 len c1, .slice a2 len c2] w fun e w' => e = .returned (.bool true) ∧ ∃ n, w' = w.drewN n := by
  by_cases h0 : len = 0
  · subst h0
    go_enter Try.func8, Try.ntmps8
    go_wp2
    refine wp_loop_rounds 1 ?_
    rw [rounds_succ]
    go_wp2
    go_ret
    exact ⟨rfl, 0, rfl⟩
  rcases h1 with h1 | ⟨b1, o1, rfl, hc1⟩
  · omega
  rcases h2 with h2 | ⟨b2, o2, rfl, hc2⟩
  · omega
  go_enter Try.func8, Try.ntmps8
  go_wp2
  go_loopw [5] (fun i wr => ∃ k : Nat, k ≤ len ∧ i = .int .i64 k ∧ ∃ n, wr = w.drewN n) (fun i _ => len - (intOf i).toNat)
  case atStart => exact ⟨0, Nat.zero_le _, rfl, 0, rfl⟩
  case round =>
    obtain ⟨k, hk, rfl, n, rfl⟩ := hrel
    by_cases hlt : k < len
    · have hx1 := hc1 k hlt
      have hx2 := hc2 k hlt
      have hltI : (k : Int) < (len : Int) := by omega
      clear hc1 hc2
      generalize xs.getD k 0 = x at hx1 hx2
      go_wp2
      go_quiet (fail)
      go_wp2
      go_roundw
      case rel => exact ⟨k + 1, by omega, by go_num, n + nq, rfl⟩
      case measure => simp [intOf]; omega
    · go_wp2
      go_ret
      exact ⟨rfl, n, rfl⟩

/-- What clone gives. -/
def Cloned (w : World) (len : Nat) (xs : List Int) (e : Ending) (w' : World) : Prop :=
  ∃ ao, e = .returned (.slice ao len len) ∧ (ao = none → len = 0) ∧ w'.ownsRow w.heap.size 5 1 (.slice ao len len) len (ints xs) ∧ Below w.heap.size w w'

/-- The rows of the loop: the first k bytes have gone over. -/
def Part (L : List Value) (len k : Nat) (xs : List Int) : Prop := L.length = len ∧ ∀ i, i < k → L[i]? = some (.int .u8 (xs.getD i 0))

theorem Part.step {L : List Value} {len k : Nat} {xs : List Int} (h : Part L len k xs) (hk : k < len) : Part (L.set k (.int .u8 (xs.getD k 0))) len (k + 1) xs := by
  refine ⟨by rw [List.length_set]; exact h.1, fun i hi => ?_⟩
  by_cases e : i = k
  · subst e; rw [List.getElem?_set_self (by have := h.1; omega)]
  · rw [List.getElem?_set_ne (fun e' => e e'.symm)]; exact h.2 i (by omega)

theorem Part.all {L : List Value} {len : Nat} {xs : List Int} (h : Part L len len xs) (hl : xs.length = len) : L = ints xs := by
  apply List.ext_getElem?
  intro i
  by_cases hi : i < len
  · rw [h.2 i hi, get_ints xs i (by omega)]
  · rw [List.getElem?_eq_none (by have := h.1; omega), List.getElem?_eq_none (by rw [length_ints]; omega)]

set_option maxHeartbeats 400000 in
theorem clone_any (a : Option Addr) (len cap : Nat) (xs : List Int) (w : World) (hnil : a = none → len = 0) (hm : len ≤ 1048576) (hlen : xs.length = len) (hrow : Row w a len xs) :
    Calls Try.prog 5 #[.slice a len cap] w (Cloned w len xs) := by
  have q : ∀ (w : World) (a : Option Addr) (n c : Nat), (binOp .eql 22 (.slice a n c) (.slice none 0 0)).run Try.prog w = .ok (.bool a.isNone) w := fun w a n c => Lib.run_eql_slice_nil w 22 5 a n c 0 0 Try.underlying22
  have HL : Hid (xs.length = len) := hlen
  clear hlen
  cases a with
  | none =>
    obtain rfl := hnil rfl
    clear hnil
    go_enter Try.func5, Try.ntmps5
    go_wp2
    go_ret
    obtain rfl : xs = [] := List.eq_nil_of_length_eq_zero HL.out
    exact ⟨none, rfl, fun _ => rfl, World.ownsRow_nil _ _ _ _, Below.refl _ _⟩
  | some x =>
    clear hnil
    obtain ⟨i0, hi, hz0, hz1, hz2⟩ := info_parts info5
    go_enter Try.func5, Try.ntmps5
    go_wp2_with (at_make; refine wpList_make_full _ rfl _ _ 22 rfl w.heap.size 5 i0 (.int .u8 0) 1 Try.underlying22 hi hz0 hz1 .i64 .i64 _ _ len rfl rfl rfl rfl ?b2 ?b3 ?b4 ?_)
    case b2 => rw [hz2]; omega
    case b3 => unfold maxLen; omega
    case b4 => exact Nat.le_refl _
    intro w1 hown hgrow
    obtain ⟨cur, HG, HC⟩ : ∃ cur : List Value, Hid (w1.heap[w.heap.size]? = some (.cells cur.toArray 5 (0, 0))) ∧ Hid (cur.length = len) :=
      ⟨_, block_of_owns hown, show _ = _ by have := hown.1; simpa using this⟩
    have hb1 : Below w.heap.size w w1 := (Below.refl _ _).grown hgrow (Nat.le_refl _) (by simp)
    clear hown hgrow hi hz0 hz1 hz2
    go_wp2
    go_loopw [4] (fun i wr => ∃ k : Nat, k ≤ len ∧ i = .int .i64 k ∧ Below w.heap.size w wr ∧ ∃ L, wr.heap[w.heap.size]? = some (.cells L.toArray 5 (0, 0)) ∧ Part L len k xs) (fun i _ => len - (intOf i).toNat)
    case atStart => exact ⟨0, Nat.zero_le _, rfl, hb1, cur, HG.out, HC.out, fun i hi => by omega⟩
    case round =>
      obtain ⟨k, hk, rfl, hb, L, hg, hp⟩ := hrel
      have HG2 : Hid (wr.heap[w.heap.size]? = some (.cells L.toArray 5 (0, 0))) := hg
      have HP : Hid (Part L len k xs) := hp
      clear hg hp
      by_cases hlt : k < len
      · rcases hrow with h0 | ⟨b, off, hx, hc⟩
        · omega
        simp only [Option.some.injEq] at hx
        subst hx
        have hcx := cell_later hb (hc k hlt)
        have HS : Hid (Part (L.set k (.int .u8 (xs.getD k 0))) len (k + 1) xs) := HP.out.step hlt
        obtain ⟨old, hold⟩ : ∃ old, wr.cell? ⟨w.heap.size, k, none⟩ = some old := by
          rw [cell_of_row wr _ k _ _ _ HG2.out]
          have hh := HP.out.1
          exact ⟨L[k], by simp [hh, hlt]⟩
        have hfr : wr.frozen? ⟨w.heap.size, k, none⟩ = false := by have := HG2.out; simp [World.frozen?, this]
        have hltI : (k : Int) < (len : Int) := by omega
        clear hc
        generalize xs.getD k 0 = x at hcx HS
        go_wp2
        go_roundw
        case rel => exact ⟨k + 1, by omega, by go_num, hb.setCell (Nat.le_refl _) _, _, block_set HG2.out _, HS.out⟩
        case measure => simp [intOf]; omega
      · obtain rfl : k = len := by omega
        have hall := HP.out.all HL.out
        have hg := HG2.out
        rw [hall] at hg
        clear hall HP HG2
        have HO : Hid (wr.ownsRow w.heap.size 5 1 (.slice (some ⟨w.heap.size, 0, none⟩) k k) k (ints xs)) := owns_of_block hg (Nat.le_refl _) (by rw [length_ints]; exact HL.out) (by unfold maxLen; omega)
        clear hg
        go_wp2
        go_ret
        exact ⟨_, rfl, fun h => by simp at h, HO.out, hb⟩

/-- It returned, and a bool. -/
def ABool (e : Ending) : Prop := ∃ b : Bool, e = .returned (.bool b)

set_option maxHeartbeats 400000 in
theorem bytes4_any (a : Option Addr) (len cap : Nat) (b1 b2 b3 b4 : Bool) (o : Int) (a' : Option Addr) (len' cap' : Nat) (w : World) (hm : len ≤ 9223372036854775807) (hm' : len' ≤ 9223372036854775807) :
    Calls Try.prog 4 #[.slice a len cap, .bool b1, .bool b2, .bool b3, .bool b4, .int .u8 o, .slice a' len' cap'] w fun e w' => ABool e ∧ w = w' := by
  go_enter Try.func4, Try.ntmps4
  go_wp2
  all_goals
    go_ret
    exact ⟨⟨_, rfl⟩, rfl⟩

end Go.Proofs.Qxb6601292a.Bytes
