/-
  The bits of the flags byte; small facts on owned rows.
-/
import Derived.Test.Qxb6601292aFlags
namespace Go.Proofs.Qxb6601292a.Bytes
open Go.RowKit

/-- What the reader sees in the flags byte. -/
structure Seen (F : Int) (v o h d s t : Bool) : Prop where
  b1 : (bits BinOp.and IntKind.u8 F 1 != 0) = v
  b2 : (bits BinOp.and IntKind.u8 F 2 != 0) = o
  b4 : (bits BinOp.and IntKind.u8 F 4 != 0) = h
  b8 : (bits BinOp.and IntKind.u8 F 8 != 0) = d
  b16 : (bits BinOp.and IntKind.u8 F 16 != 0) = s
  b32 : (bits BinOp.and IntKind.u8 F 32 != 0) = t

theorem seen_same (v o h d : Bool) : Seen (flagsOf v o h d 1) v o h d true false := by
  cases v <;> cases o <;> cases h <;> cases d <;> exact ⟨by decide, by decide, by decide, by decide, by decide, by decide⟩

theorem seen_other (v o h d : Bool) : Seen (flagsOf v o h d 2) v o h d false true := by
  cases v <;> cases o <;> cases h <;> cases d <;> exact ⟨by decide, by decide, by decide, by decide, by decide, by decide⟩

theorem seen_none (v o h d : Bool) (g : Int) (q1 : (g == 1) = false) (q2 : (g == 2) = false) : Seen (flagsOf v o h d g) v o h d false false := by
  rw [flags_zero q1 q2]
  cases v <;> cases o <;> cases h <;> cases d <;> exact ⟨by decide, by decide, by decide, by decide, by decide, by decide⟩

theorem below_drawn {B : Nat} {a w : World} (h : Below B a w) (n : Nat) : Below B a (w.drewN n) := h.trans ⟨rfl, rfl, rfl, Nat.le_refl _, fun _ _ => rfl⟩

theorem block_lt {w : World} {base n len cap : Nat} {e : TypeId} {ao : Option Addr} {xs : List Value} (h : w.ownsRow base e 1 (.slice ao len cap) n xs) : ∀ x, ao = some x → x.block < w.heap.size := by
  rintro x rfl
  exact (h.lt x.block rfl).2

/-- An owned slice that is not empty: where it lies, and its cells. -/
theorem open_owns {w : World} {base n cap : Nat} {ao : Option Addr} {ys : List Int} (h : w.ownsRow base 5 1 (.slice ao n cap) n (ints ys)) (hn : 0 < n) :
    ∃ g, ao = some ⟨g, 0, none⟩ ∧ n ≤ cap ∧ cap ≤ 9223372036854775807 ∧ ∀ i, i < n → w.cell? ⟨g, i, none⟩ = some (.int .u8 (ys.getD i 0)) := by
  have hr := row_of_owns h
  obtain ⟨h1, h2⟩ := h
  rcases h2 with ⟨_, h2⟩ | ⟨g, cap', cur, hv, _, hh, hnc, hm, hs, ht⟩
  · omega
  · simp only [Value.slice.injEq] at hv
    obtain ⟨rfl, _, rfl⟩ := hv
    refine ⟨g, rfl, hnc, by unfold maxLen at hm; omega, fun i hi => ?_⟩
    rcases hr with h0 | ⟨b, off, hb, hc⟩
    · omega
    · simp only [Option.some.injEq, Addr.mk.injEq] at hb
      obtain ⟨rfl, rfl, _⟩ := hb
      have := hc i hi
      rwa [Nat.zero_add] at this

theorem at_flag {xs ps : List Int} {n : Nat} {F M : Int} (h : xs.length = n) : (xs ++ [F] ++ [M] ++ ps).getD n 0 = F := by
  subst h
  simp [List.getD_eq_getElem?_getD]

theorem at_len {xs ps : List Int} {n : Nat} {F M : Int} (h : xs.length = n) : (xs ++ [F] ++ [M] ++ ps).getD (n + 1) 0 = M := by
  subst h
  simp [List.getD_eq_getElem?_getD]

theorem at_head {xs ps : List Int} {n i : Nat} {F M : Int} (h : xs.length = n) (hi : i < n) : (xs ++ [F] ++ [M] ++ ps).getD i 0 = xs.getD i 0 := by
  subst h
  simp [List.getD_eq_getElem?_getD, List.getElem?_append, hi]

theorem at_tail {xs ps : List Int} {n i : Nat} {F M : Int} (h : xs.length = n) : (xs ++ [F] ++ [M] ++ ps).getD (n + 1 + 1 + i) 0 = ps.getD i 0 := by
  subst h
  rw [List.getD_eq_getElem?_getD, List.getD_eq_getElem?_getD, List.getElem?_append_right (by simp)]
  congr 2
  simp

end Go.Proofs.Qxb6601292a.Bytes
