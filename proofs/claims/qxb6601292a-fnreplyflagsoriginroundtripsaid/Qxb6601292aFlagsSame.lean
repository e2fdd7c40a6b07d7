/-
  ZZAppendReplyFlags (6) and appendReplyFlags (9): one way of the origin; the four bools case by case.
-/
import Derived.Test.Qxb6601292aFlags
namespace Go.Proofs.Qxb6601292a.Bytes
open Go.RowKit

set_option maxHeartbeats 4000000 in
theorem flags_same (ao : Option Addr) (n : Nat) (xs : List Int) (v o h d : Bool) (ys : List Int) (N : Nat) (w : World)
    (hrow : Row w ao n xs) (hxl : xs.length = n) (hnil : ao = none → n = 0) (hn : n ≤ 2097152) (HY : Hid (ys = xs ++ [flagsOf v o h d 1])) (HN : Hid (N = n + 1)) :
    Calls Try.prog 6 #[.slice ao n n, .bool v, .bool o, .bool h, .bool d, .int .u8 1] w (Has w.heap.size w ys N) := by
  obtain ⟨i0, hi, hz0, hz1, hz2⟩ := info_parts info5
  have HNil : Hid (ao = none → n = 0 ∧ n = 0) := fun h => ⟨hnil h, hnil h⟩
  have HXL : Hid (xs.length = n) := hxl
  clear hnil hxl
  cases v <;> cases o <;> cases h <;> cases d
  all_goals
    go_enter Try.func6, Try.ntmps6
    go_wp2_with (first | (at_builtin; go_must (refine wpList_append_grows _ rfl (.tmp 32) (.tmp 34) 22 rfl 5 i0 (.int .u8 0) 1 1 Try.underlying22 hi hz0 hz1 hz2 rfl (by decide) ao n n (ints xs) rfl HNil.out (by rw [length_ints, HXL.out]; omega) (olds_of HXL.out (row_alloc (row_alloc hrow _) _)) _ 1 1 _ rfl rfl (cell_two_new _ _ _ _) (one_one _ _) (by omega) (by unfold maxLen; omega) (by omega) ?_; intro v' w1 hown1 hgrow1)) | go_in)
    go_ret
    exact flags_end hown1 hgrow1 HY.out (by decide) HN.out

end Go.Proofs.Qxb6601292a.Bytes
