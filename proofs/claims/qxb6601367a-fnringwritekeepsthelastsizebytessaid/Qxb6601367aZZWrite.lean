/-
  ZZRingWrite (24), for every ring that write itself reaches.
-/
import Derived.Test.Qxb6601367aWriteNil
namespace Go.Proofs.Qxb6601367a.Bytes
open Go.RowKit

/-- The blocks that a write may turn: the ring's, its buffer's, new ones. -/
def Turned (R : Nat) (ao : Option Addr) (z : Nat) (k : Nat) : Prop := k = R ∨ (∃ x : Addr, ao = some x ∧ x.block = k) ∨ z ≤ k

set_option maxHeartbeats 400000 in
theorem zzwrite_zero (R : Nat) (ap : Option Addr) (m mc : Nat) (w : World) (HM : Hid (m = 0)) :
    Calls Try.prog 24 #[.pointer (some ⟨R, 0, none⟩), .slice ap m mc] w fun e w' => e = .returned (.tuple #[]) ∧ w = w' := by
  rw [HM.out]
  exact write_none R ap mc w

theorem write_pos (R B : Nat) (size next n m mc : Nat) (wr : Int) (ao : Option Addr) (pb po : Nat) (xs ps : List Int) (w : World)
    (hring : RingAt w R size ao n n next wr) (hown : w.ownsRow B 5 1 (.slice ao n n) n (ints xs)) (hB : B ≤ w.heap.size)
    (hp : Row w (some ⟨pb, po, none⟩) m ps) (hpl : ps.length = m) (hxl : xs.length = n) (hm : 0 < m) (hm2 : m ≤ 1048576) (hmc : m ≤ mc) (hmcm : mc ≤ 9223372036854775807) (hsz : 0 < size) (hsz2 : size ≤ 65536) (hn : n ≤ size) (hnx : next < size) (h0 : n < size → next = 0)
    (hSp : ¬ Turned R ao w.heap.size pb) :
    Calls Try.prog 32 #[.pointer (some ⟨R, 0, none⟩), .slice (some ⟨pb, po, none⟩) m mc] w (Wrote (Turned R ao w.heap.size) w R B size next (Plain.rot size next xs ++ ps) (wrap64 (wr + (m : Int)))) := by
  rcases hown.2 with ⟨hv, rfl⟩ | ⟨g, cap', cur, hv, _⟩
  · simp only [Value.slice.injEq] at hv
    obtain ⟨rfl, _, _⟩ := hv
    exact write_nil R B size next 0 m mc _ wr _ w.heap.size pb po xs ps w _ hring hB hp hpl hxl hm hm2 hmc hmcm hsz hsz2 hn hnx h0 rfl rfl rfl rfl (.inl rfl) (.inr (.inr (Nat.le_refl _))) (fun k hk => .inr (.inr hk)) hSp
  · simp only [Value.slice.injEq] at hv
    obtain ⟨rfl, _, _⟩ := hv
    exact write_some R B size next n n m mc _ wr _ g pb po xs ps w _ hring hown hB hp hpl hxl hm hm2 hmc hmcm hsz hsz2 hn hnx h0 rfl rfl (.inl rfl) (.inr (.inl ⟨_, rfl, rfl⟩)) (fun k hk => .inr (.inr hk)) hSp

set_option maxHeartbeats 400000 in
theorem zzwrite_pos (R B : Nat) (size next n m mc : Nat) (wr : Int) (ao : Option Addr) (pb po : Nat) (xs ps : List Int) (w : World)
    (hring : RingAt w R size ao n n next wr) (hown : w.ownsRow B 5 1 (.slice ao n n) n (ints xs)) (hB : B ≤ w.heap.size)
    (hp : Row w (some ⟨pb, po, none⟩) m ps) (hpl : ps.length = m) (hxl : xs.length = n) (hm : 0 < m) (hm2 : m ≤ 1048576) (hmc : m ≤ mc) (hmcm : mc ≤ 9223372036854775807) (hsz : 0 < size) (hsz2 : size ≤ 65536) (hn : n ≤ size) (hnx : next < size) (h0 : n < size → next = 0)
    (hSp : ¬ Turned R ao w.heap.size pb) :
    Calls Try.prog 24 #[.pointer (some ⟨R, 0, none⟩), .slice (some ⟨pb, po, none⟩) m mc] w (Wrote (Turned R ao w.heap.size) w R B size next (Plain.rot size next xs ++ ps) (wrap64 (wr + (m : Int)))) := by
  have H := write_pos R B size next n m mc wr ao pb po xs ps w hring hown hB hp hpl hxl hm hm2 hmc hmcm hsz hsz2 hn hnx h0 hSp
  have HH : Hid (Calls Try.prog 32 #[.pointer (some ⟨R, 0, none⟩), .slice (some ⟨pb, po, none⟩) m mc] w (Wrote (Turned R ao w.heap.size) w R B size next (Plain.rot size next xs ++ ps) (wrap64 (wr + (m : Int))))) := H
  clear H hring hown hB hp hpl hxl hm hm2 hmc hmcm hsz hsz2 hn hnx h0 hSp
  go_enter Try.func24, Try.ntmps24
  go_wp2_with fail
  refine HH.out.mono ?_
  rintro e w' ⟨rfl, hw⟩
  go_wp2
  go_end0
  exact ⟨rfl, hw⟩

end Go.Proofs.Qxb6601367a.Bytes
