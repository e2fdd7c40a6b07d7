/-
  The functions of this program that only read a slice of strings: b1Size (11), zzBytes_FnContainsFindsEveryElement (15), contains (23), ZZcontains (13): a contract each.
-/
import Derived.Test.Qxb6602259aProg
import Derived.WalkKit
import Derived.WalkSpells
namespace Go.Proofs.Qxb6602259a.Reads
open Go.RowKit

/-- The first 'len' elements of the slice value at 'a' are the first strings of 'ss'. -/
def Row (w : World) (a : Option Addr) (len : Nat) (ss : List ByteArray) : Prop :=
  len = 0 ∨ ∃ b off, a = some ⟨b, off, none⟩ ∧ len ≤ ss.length ∧ ∀ i, i < len → w.cell? ⟨b, off + i, none⟩ = some (.string (ss.getD i ByteArray.empty))

/-- It returned, and a bool. -/
def ABool (e : Ending) : Prop := ∃ b : Bool, e = .returned (.bool b)

/-- Some string of the list has the bytes of 's'. -/
def has (ss : List ByteArray) (s : ByteArray) : Bool := ss.any (fun x => x.toList == s.toList)

theorem take_snoc (ss : List ByteArray) (k : Nat) (h : k < ss.length) : ss.take (k + 1) = ss.take k ++ [ss.getD k ByteArray.empty] := by
  rw [List.take_succ_eq_append_getElem h, List.getD_eq_getElem?_getD, List.getElem?_eq_getElem h]; rfl

theorem has_snoc (ss : List ByteArray) (s : ByteArray) (k : Nat) (h : k < ss.length) :
    has (ss.take (k + 1)) s = (has (ss.take k) s || ((ss.getD k ByteArray.empty).toList == s.toList)) := by
  rw [take_snoc ss k h]; simp only [has, List.any_append, List.any_cons, List.any_nil, Bool.or_false]

theorem has_hit (ss : List ByteArray) (s : ByteArray) (k len : Nat) (h : k < len) (hl : len ≤ ss.length) (hx : ((ss.getD k ByteArray.empty).toList == s.toList) = true) :
    has (ss.take len) s = true := by
  simp only [has, List.any_eq_true]
  refine ⟨ss.getD k ByteArray.empty, ?_, hx⟩
  have hk : k < ss.length := by omega
  have e : ss.getD k ByteArray.empty = ss[k] := by rw [List.getD_eq_getElem?_getD, List.getElem?_eq_getElem hk]; rfl
  rw [e, List.mem_iff_getElem]
  exact ⟨k, by rw [List.length_take]; omega, by rw [List.getElem_take]⟩

set_option maxHeartbeats 400000 in
theorem size_any (a : Option Addr) (len cap : Nat) (ss : List ByteArray) (s : Int) (w : World) (hm : len ≤ 9223372036854775807) (hrow : Row w a len ss) :
    Calls Try.prog 11 #[.slice a len cap, .int .i64 s] w fun e w' => (∃ n : Int, e = .returned (.int .i64 n)) ∧ w = w' := by
  rcases hrow with rfl | ⟨b, off, rfl, hl, hc⟩
  · go_enter Try.func11, Try.ntmps11
    go_wp2
    refine wp_loop_rounds 1 ?_
    rw [rounds_succ]
    go_wp2
    go_ret
    exact ⟨⟨_, rfl⟩, rfl⟩
  · go_enter Try.func11, Try.ntmps11
    go_wp2
    go_loop [5, 6] (fun t i => ∃ k : Nat, k ≤ len ∧ i = .int .i64 k ∧ ∃ n : Int, t = .int .i64 n) (fun _ i => len - (intOf i).toNat)
    case atStart => exact ⟨0, Nat.zero_le _, rfl, _, rfl⟩
    case round =>
      obtain ⟨k, hk, rfl, n, rfl⟩ := hrel
      by_cases hlt : k < len
      · have hcx := hc k hlt
        clear hc
        generalize ss.getD k ByteArray.empty = x at hcx
        go_wp2
        · go_ret
          exact ⟨⟨_, rfl⟩, rfl⟩
        · go_round
          case rel => exact ⟨k + 1, by omega, by go_num, _, rfl⟩
          case measure => simp [intOf]; omega
      · go_wp2
        go_ret
        exact ⟨⟨_, rfl⟩, rfl⟩

set_option maxHeartbeats 400000 in
theorem bytes15_any (a : Option Addr) (len cap : Nat) (ss : List ByteArray) (s : Int) (w : World) (hm : len ≤ 9223372036854775807) (hrow : Row w a len ss) :
    Calls Try.prog 15 #[.slice a len cap, .int .i64 s] w fun e w' => ABool e ∧ w = w' := by
  by_cases hbig : (1048576 : Int) < (len : Int)
  · go_enter Try.func15, Try.ntmps15
    go_wp2
    go_ret
    exact ⟨⟨_, rfl⟩, rfl⟩
  rcases hrow with rfl | ⟨b, off, rfl, hl, hc⟩
  · go_enter Try.func15, Try.ntmps15
    go_wp2
    refine wp_loop_rounds 1 ?_
    rw [rounds_succ]
    go_wp2
    go_ret
    exact ⟨⟨_, rfl⟩, rfl⟩
  · go_enter Try.func15, Try.ntmps15
    go_wp2
    go_loop [5, 6] (fun t i => ∃ k : Nat, k ≤ len ∧ i = .int .i64 k ∧ ∃ n : Int, t = .int .i64 n) (fun _ i => len - (intOf i).toNat)
    case atStart => exact ⟨0, Nat.zero_le _, rfl, _, rfl⟩
    case round =>
      obtain ⟨k, hk, rfl, n, rfl⟩ := hrel
      by_cases hlt : k < len
      · have hcx := hc k hlt
        clear hc
        generalize ss.getD k ByteArray.empty = x at hcx
        go_wp2
        · go_ret
          exact ⟨⟨_, rfl⟩, rfl⟩
        · go_ret
          exact ⟨⟨_, rfl⟩, rfl⟩
        · go_round
          case rel => exact ⟨k + 1, by omega, by go_num, _, rfl⟩
          case measure => simp [intOf]; omega
      · go_wp2
        go_ret
        exact ⟨⟨_, rfl⟩, rfl⟩

set_option maxHeartbeats 400000 in
theorem contains_any (a : Option Addr) (len cap : Nat) (ss : List ByteArray) (s : ByteArray) (w : World) (hm : len ≤ 9223372036854775807) (hrow : Row w a len ss) :
    Calls Try.prog 23 #[.slice a len cap, .string s] w fun e w' => e = .returned (.bool (has (ss.take len) s)) ∧ w = w' := by
  rcases hrow with rfl | ⟨b, off, rfl, hl, hc⟩
  · go_enter Try.func23, Try.ntmps23
    go_wp2
    refine wp_loop_rounds 1 ?_
    rw [rounds_succ]
    go_wp2
    go_ret
    exact ⟨rfl, rfl⟩
  · go_enter Try.func23, Try.ntmps23
    go_wp2
    go_loop [9] (fun i => ∃ k : Nat, k ≤ len ∧ i = .int .i64 k ∧ has (ss.take k) s = false) (fun i => len - (intOf i).toNat)
    case atStart => exact ⟨0, Nat.zero_le _, rfl, rfl⟩
    case round =>
      obtain ⟨k, hk, rfl, hno⟩ := hrel
      have HN : Hid (has (ss.take k) s = false) := hno
      clear hno
      by_cases hlt : k < len
      · have hcx := hc k hlt
        have HS : Hid (has (ss.take (k + 1)) s = (has (ss.take k) s || ((ss.getD k ByteArray.empty).toList == s.toList))) := has_snoc ss s k (by omega)
        have HH : Hid (((ss.getD k ByteArray.empty).toList == s.toList) = true → has (ss.take len) s = true) := has_hit ss s k len hlt hl
        clear hc
        generalize ss.getD k ByteArray.empty = x at hcx HS HH
        cases hx : (x.toList == s.toList)
        · go_wp2
          go_round
          case rel => exact ⟨k + 1, by omega, by go_num, by rw [HS.out, HN.out, hx]; rfl⟩
          case measure => simp [intOf]; omega
        · go_wp2
          go_ret
          exact ⟨by rw [HH.out hx]; rfl, rfl⟩
      · obtain rfl : k = len := by omega
        go_wp2
        go_ret
        exact ⟨by rw [HN.out]; rfl, rfl⟩

theorem zzcontains_any (a : Option Addr) (len cap : Nat) (ss : List ByteArray) (s : ByteArray) (w : World) (hm : len ≤ 9223372036854775807) (hrow : Row w a len ss) :
    Calls Try.prog 13 #[.slice a len cap, .string s] w fun e w' => e = .returned (.bool (has (ss.take len) s)) ∧ w = w' := by
  go_enter Try.func13, Try.ntmps13
  go_wp2_with (go_at_call 23; refine (contains_any a len cap ss s _ hm hrow).mono ?_; rintro e w' ⟨rfl, rfl⟩)
  go_ret
  exact ⟨rfl, rfl⟩

end Go.Proofs.Qxb6602259a.Reads
