/-
  The guards of FnRingWriteKeepsTheLastSizeBytes (function 7): where one of them turns the input away, true is returned at once.
-/
import Derived.Test.Qxb6601367aMainLaws
namespace Go.Proofs.Qxb6601367a.Bytes
open Go.RowKit

/-- The inputs that the guards let by. -/
def Fit (a0 : Int) (len1 : Nat) (a2 : Int) (len4 : Nat) : Prop :=
  (len1 : Int) + (len4 : Int) ≤ 1048576 ∧ 1 ≤ a0 ∧ a0 ≤ 65536 ∧ (len1 : Int) ≤ a0 ∧ 0 ≤ a2 ∧ a2 < a0 ∧ ((len1 : Int) < a0 → a2 = 0)

set_option maxRecDepth 100000 in
set_option maxHeartbeats 4000000 in
theorem guarded (a0 : Int) (a1 : Option Addr) (len1 cap1 : Nat) (a2 a3 : Int) (a4 : Option Addr) (len4 cap4 : Nat) (w : World) (hl1 : len1 ≤ 9223372036854775807) (hl4 : len4 ≤ 9223372036854775807) (hnot : ¬ Fit a0 len1 a2 len4) :
    Calls Try.prog 7 #[.int .i64 a0, .slice a1 len1 cap1, .int .i64 a2, .int .i64 a3, .slice a4 len4 cap4] w fun e w' => e = .returned (.bool true) ∧ Below w.heap.size w w' := by
  by_cases g1 : (1048576 : Int) < (len1 : Int)
  · go_enter Try.func7, Try.ntmps7
    go_wp2_with fail
    refine (bytes21_any a0 a1 len1 cap1 a2 a3 a4 len4 cap4 _ hl1 hl4).mono ?_
    rintro e w' ⟨⟨b, rfl⟩, rfl⟩
    cases b <;> (go_wp2_with fail; go_ret; exact ⟨rfl, Below.refl _ _⟩)
  by_cases g2 : (1048576 : Int) < (len4 : Int)
  · go_enter Try.func7, Try.ntmps7
    go_wp2_with fail
    refine (bytes21_any a0 a1 len1 cap1 a2 a3 a4 len4 cap4 _ hl1 hl4).mono ?_
    rintro e w' ⟨⟨b, rfl⟩, rfl⟩
    cases b <;> (go_wp2_with fail; go_ret; exact ⟨rfl, Below.refl _ _⟩)
  by_cases g3 : (1048576 : Int) < (len1 : Int) + (len4 : Int)
  · go_enter Try.func7, Try.ntmps7
    go_wp2_with fail
    refine (bytes21_any a0 a1 len1 cap1 a2 a3 a4 len4 cap4 _ hl1 hl4).mono ?_
    rintro e w' ⟨⟨b, rfl⟩, rfl⟩
    cases b <;> (go_wp2_with fail; go_ret; exact ⟨rfl, Below.refl _ _⟩)
  by_cases g4 : a0 < 1
  · go_enter Try.func7, Try.ntmps7
    go_wp2_with fail
    refine (bytes21_any a0 a1 len1 cap1 a2 a3 a4 len4 cap4 _ hl1 hl4).mono ?_
    rintro e w' ⟨⟨b, rfl⟩, rfl⟩
    cases b <;> (go_wp2_with fail; go_ret; exact ⟨rfl, Below.refl _ _⟩)
  by_cases g5 : (65536 : Int) < a0
  · go_enter Try.func7, Try.ntmps7
    go_wp2_with fail
    refine (bytes21_any a0 a1 len1 cap1 a2 a3 a4 len4 cap4 _ hl1 hl4).mono ?_
    rintro e w' ⟨⟨b, rfl⟩, rfl⟩
    cases b <;> (go_wp2_with fail; go_ret; exact ⟨rfl, Below.refl _ _⟩)
  by_cases g6 : a0 < (len1 : Int)
  · go_enter Try.func7, Try.ntmps7
    go_wp2_with fail
    refine (bytes21_any a0 a1 len1 cap1 a2 a3 a4 len4 cap4 _ hl1 hl4).mono ?_
    rintro e w' ⟨⟨b, rfl⟩, rfl⟩
    cases b <;> (go_wp2_with fail; go_ret; exact ⟨rfl, Below.refl _ _⟩)
  by_cases g7 : a2 < 0
  · go_enter Try.func7, Try.ntmps7
    go_wp2_with fail
    refine (bytes21_any a0 a1 len1 cap1 a2 a3 a4 len4 cap4 _ hl1 hl4).mono ?_
    rintro e w' ⟨⟨b, rfl⟩, rfl⟩
    cases b <;> (go_wp2_with fail; go_ret; exact ⟨rfl, Below.refl _ _⟩)
  by_cases g8 : a0 ≤ a2
  · go_enter Try.func7, Try.ntmps7
    go_wp2_with fail
    refine (bytes21_any a0 a1 len1 cap1 a2 a3 a4 len4 cap4 _ hl1 hl4).mono ?_
    rintro e w' ⟨⟨b, rfl⟩, rfl⟩
    cases b <;> (go_wp2_with fail; go_ret; exact ⟨rfl, Below.refl _ _⟩)
  by_cases g9 : (len1 : Int) < a0 ∧ a2 ≠ 0
  · obtain ⟨g9, g10⟩ := g9
    have g11 : (a2 != 0) = true := by rw [bne_iff_ne]; exact g10
    clear g10
    go_enter Try.func7, Try.ntmps7
    go_wp2_with fail
    refine (bytes21_any a0 a1 len1 cap1 a2 a3 a4 len4 cap4 _ hl1 hl4).mono ?_
    rintro e w' ⟨⟨b, rfl⟩, rfl⟩
    cases b <;> (go_wp2_with fail; go_ret; exact ⟨rfl, Below.refl _ _⟩)
  exact absurd (show Fit a0 len1 a2 len4 from ⟨by omega, by omega, by omega, by omega, by omega, by omega, fun h => Classical.byContradiction fun h' => g9 ⟨h, h'⟩⟩) hnot

end Go.Proofs.Qxb6601367a.Bytes
