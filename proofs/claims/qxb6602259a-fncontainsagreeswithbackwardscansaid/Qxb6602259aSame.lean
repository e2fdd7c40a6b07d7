/-
  b1Same (12): it compares two strings byte by byte. zzBytes_FnContainsAgreesWithBackwardScan (10).
-/
import Derived.Test.Qxb6602259aReads
import Derived.Deep.QuietTactic
import Derived.BigQuiet
namespace Go.Proofs.Qxb6602259a.Reads
open Go.RowKit

theorem len_toList (a : ByteArray) : a.toList.length = a.size := by rw [ByteArray.toList_eq]; simp

theorem toNat_inj (x y : UInt8) (h : ((x.toNat : Int) != (y.toNat : Int)) = false) : x = y := by
  have h' : (x.toNat : Int) = (y.toNat : Int) := by simpa using h
  exact UInt8.toNat_inj.1 (by omega)

theorem take_succ_byte (a : ByteArray) (k : Nat) (h : k < a.size) : a.toList.take (k + 1) = a.toList.take k ++ [a[k]] := by
  rw [ByteArray.toList_eq, List.take_succ_eq_append_getElem (by simpa using h)]; rfl

theorem take_more (a b : ByteArray) (k : Nat) (ha : k < a.size) (hb : k < b.size) (h : ((a[k].toNat : Int) != (b[k].toNat : Int)) = false) (hE : a.toList.take k = b.toList.take k) :
    a.toList.take (k + 1) = b.toList.take (k + 1) := by
  rw [take_succ_byte a k ha, take_succ_byte b k hb, hE, toNat_inj _ _ h]

theorem differ (a b : ByteArray) (k : Nat) (ha : k < a.size) (hb : k < b.size) (h : ((a[k].toNat : Int) != (b[k].toNat : Int)) = true) : (a.toList == b.toList) = false := by
  rw [beq_eq_false_iff_ne]
  intro e
  have e1 := take_succ_byte a k ha
  have e2 := take_succ_byte b k hb
  rw [e] at e1
  rw [e1] at e2
  have := (List.append_inj' e2 rfl).2
  simp only [List.cons.injEq, and_true] at this
  rw [this] at h
  simp at h

theorem alike (a b : ByteArray) (hs : a.size = b.size) (h : a.toList.take a.size = b.toList.take a.size) : (a.toList == b.toList) = true := by
  rw [List.take_of_length_le (by rw [len_toList]; omega), List.take_of_length_le (by rw [len_toList]; omega)] at h
  simp [h]

theorem differ_size (a b : ByteArray) (hs : ¬ a.size = b.size) : (a.toList == b.toList) = false := by
  rw [beq_eq_false_iff_ne]
  intro e
  have := congrArg List.length e
  rw [len_toList, len_toList] at this
  exact hs this

set_option maxHeartbeats 400000 in
theorem same_any (a b : ByteArray) (w : World) (ha : a.size ≤ 9223372036854775807) :
    Calls Try.prog 12 #[.string a, .string b] w fun e w' => e = .returned (.bool (a.toList == b.toList)) ∧ ∃ n, w' = w.drewN n := by
  by_cases hs : a.size = b.size
  · have hne : ((a.size : Int) != (b.size : Int)) = false := by simp [hs]
    have HS : Hid (a.size = b.size) := hs
    clear hs
    go_enter Try.func12, Try.ntmps12
    go_wp2
    go_loopw [5] (fun i wr => ∃ k : Nat, k ≤ a.size ∧ i = .int .i64 k ∧ (∃ n, wr = w.drewN n) ∧ a.toList.take k = b.toList.take k) (fun i _ => a.size - (intOf i).toNat)
    case atStart => exact ⟨0, Nat.zero_le _, rfl, ⟨0, rfl⟩, rfl⟩
    case round =>
      obtain ⟨k, hk, rfl, ⟨n, rfl⟩, heq⟩ := hrel
      have HE : Hid (a.toList.take k = b.toList.take k) := heq
      clear heq
      by_cases hlt : k < a.size
      · have hlb : k < b.size := by have := HS.out; omega
        have hltI : (k : Int) < (a.size : Int) := by omega
        have hlbI : (k : Int) < (b.size : Int) := by omega
        go_wp2
        go_quiet (fail)
        go_wp2
        · have HX : Hid ((a.toList == b.toList) = false) := differ a b k hlt hlb (by assumption)
          go_ret
          exact ⟨by rw [HX.out]; rfl, n + nq, by rw [World.drewN_drewN]⟩
        · have HX : Hid (a.toList.take (k + 1) = b.toList.take (k + 1)) := take_more a b k hlt hlb (by assumption) HE.out
          go_roundw
          case rel => exact ⟨k + 1, by omega, by go_num, ⟨n + nq, rfl⟩, HX.out⟩
          case measure => simp [intOf]; omega
      · obtain rfl : k = a.size := by omega
        have HX : Hid ((a.toList == b.toList) = true) := alike a b HS.out HE.out
        go_wp2
        go_ret
        exact ⟨by rw [HX.out]; rfl, n, rfl⟩
  · have hne : ((a.size : Int) != (b.size : Int)) = true := by rw [bne_iff_ne]; omega
    have HX : Hid ((a.toList == b.toList) = false) := differ_size a b hs
    clear hs
    go_enter Try.func12, Try.ntmps12
    go_wp2
    go_ret
    exact ⟨by rw [HX.out]; rfl, 0, rfl⟩

set_option maxHeartbeats 400000 in
theorem bytes10_any (a : Option Addr) (len cap : Nat) (ss : List ByteArray) (s : ByteArray) (w : World) (hm : len ≤ 9223372036854775807) (hs : s.size ≤ 9223372036854775807) (hrow : Row w a len ss) :
    Calls Try.prog 10 #[.slice a len cap, .string s] w fun e w' => ABool e ∧ w = w' := by
  by_cases hbig : (1048576 : Int) < (len : Int)
  · go_enter Try.func10, Try.ntmps10
    go_wp2
    go_ret
    exact ⟨⟨_, rfl⟩, rfl⟩
  rcases hrow with rfl | ⟨b, off, rfl, hl, hc⟩
  · go_enter Try.func10, Try.ntmps10
    go_wp2
    refine wp_loop_rounds 1 ?_
    rw [rounds_succ]
    go_wp2
    all_goals
      go_ret
      exact ⟨⟨_, rfl⟩, rfl⟩
  · go_enter Try.func10, Try.ntmps10
    go_wp2
    go_loop [5, 6] (fun t i => ∃ k : Nat, k ≤ len ∧ i = .int .i64 k ∧ ∃ n : Int, t = .int .i64 n) (fun _ i => len - (intOf i).toNat)
    case atStart => exact ⟨0, Nat.zero_le _, rfl, _, rfl⟩
    case round =>
      obtain ⟨k, hk, rfl, n, rfl⟩ := hrel
      by_cases hlt : k < len
      · have hcx := hc k hlt
        clear hc
        generalize ss.getD k ByteArray.empty = x at hcx
        go_wp2
        · go_ret
          exact ⟨⟨_, rfl⟩, rfl⟩
        · go_ret
          exact ⟨⟨_, rfl⟩, rfl⟩
        · go_round
          case rel => exact ⟨k + 1, by omega, by go_num, _, rfl⟩
          case measure => simp [intOf]; omega
      · go_wp2
        all_goals
          go_ret
          exact ⟨⟨_, rfl⟩, rfl⟩

end Go.Proofs.Qxb6602259a.Reads
