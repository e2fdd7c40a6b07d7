/-
  ZZNewRing (23), ZZRingBuf (25), ZZRingNext (26), ZZRingWritten (27); small facts for the walk of FnRingWriteKeepsTheLastSizeBytes.
-/
import Derived.Test.Qxb6601367aZZWrite
namespace Go.Proofs.Qxb6601367a.Bytes
open Go.RowKit

theorem newring (sz : Int) (ao : Option Addr) (n c : Nat) (nx wr : Int) (w : World) :
    Calls Try.prog 23 #[.int .i64 sz, .slice ao n c, .int .i64 nx, .int .i64 wr] w fun e w' => e = .returned (.pointer (some ⟨w.heap.size, 0, none⟩)) ∧ w.alloc (.cells #[.int .i64 sz, .slice ao n c, .int .i64 nx, .int .i64 wr] 50) = w' := by
  go_enter Try.func23, Try.ntmps23
  go_wp2
  go_ret
  exact ⟨rfl, rfl⟩

theorem ringbuf (R : Nat) (sz : Int) (ao : Option Addr) (n c : Nat) (nx wr : Int) (w : World) (h : RingAt w R sz ao n c nx wr) :
    Calls Try.prog 25 #[.pointer (some ⟨R, 0, none⟩)] w fun e w' => e = .returned (.slice ao n c) ∧ w = w' := by
  have c1 := h.c1
  go_enter Try.func25, Try.ntmps25
  go_wp2
  go_ret
  exact ⟨rfl, rfl⟩

theorem ringnext (R : Nat) (sz : Int) (ao : Option Addr) (n c : Nat) (nx wr : Int) (w : World) (h : RingAt w R sz ao n c nx wr) :
    Calls Try.prog 26 #[.pointer (some ⟨R, 0, none⟩)] w fun e w' => e = .returned (.int .i64 nx) ∧ w = w' := by
  have c2 := h.c2
  go_enter Try.func26, Try.ntmps26
  go_wp2
  go_ret
  exact ⟨rfl, rfl⟩

theorem ringwritten (R : Nat) (sz : Int) (ao : Option Addr) (n c : Nat) (nx wr : Int) (w : World) (h : RingAt w R sz ao n c nx wr) :
    Calls Try.prog 27 #[.pointer (some ⟨R, 0, none⟩)] w fun e w' => e = .returned (.int .i64 wr) ∧ w = w' := by
  have c3 := h.c3
  go_enter Try.func27, Try.ntmps27
  go_wp2
  go_ret
  exact ⟨rfl, rfl⟩

theorem one_one (k : IntKind) (n : Int) : ∀ u ∈ [Value.int k n], u.oneCell' = true := by
  intro u hu
  simp at hu
  subst hu
  rfl

theorem rem_emod (a b c r : Nat) (h : r = (a + b) % c) : ((a : Int) + (b : Int)) % (c : Int) = (r : Int) := by rw [h, Int.natCast_emod, Int.natCast_add]
theorem rem_tmod (a b c r : Nat) (h : r = (a + b) % c) : ((a : Int) + (b : Int)).tmod (c : Int) = (r : Int) := by rw [Int.tmod_eq_emod_of_nonneg (by omega)]; exact rem_emod a b c r h

theorem slice_cap (a : Option Addr) (m mc : Nat) (h : mc = m) : Value.slice a m m = Value.slice a m mc := by rw [h]

theorem news_any {w : World} {ap : Option Addr} {m : Nat} {ps : List Int} (hpl : ps.length = m) (hp : Row w ap m ps) : ∀ ad, ap = some ad → ∀ j u, (ints ps)[j]? = some u → w.cell? (ad.add j) = some u := by
  rintro ad rfl
  exact news_of hpl hp

/-- The place of a byte of the ring lies within the buffer. -/
theorem place_lt {sz nx n j : Nat} (hsz : 1 ≤ sz) (hn : n ≤ sz) (h0 : n < sz → nx = 0) (hj : j < n) : (nx + j) % sz < n := by
  by_cases h : n < sz
  · rw [h0 h, Nat.zero_add, Nat.mod_eq_of_lt (by omega)]; exact hj
  · have := Nat.mod_lt (nx + j) (show 0 < sz by omega)
    omega

theorem place_lt' {sz nx n m L j : Nat} (hsz : 1 ≤ sz) (h0 : n < sz → nx = 0) (hL : L = min (n + m) sz) (hj : j < n + m) : (nx + j) % sz < L := by
  by_cases h : n + m < sz
  · rw [h0 (by omega), Nat.zero_add, Nat.mod_eq_of_lt (by omega)]; omega
  · have := Nat.mod_lt (nx + j) (show 0 < sz by omega)
    omega

theorem below_drawn {B : Nat} {a w : World} (h : Below B a w) (n : Nat) : Below B a (w.drewN n) := h.trans ⟨rfl, rfl, rfl, Nat.le_refl _, fun _ _ => rfl⟩

theorem next_in {sz nx n m L nxR : Nat} (h : n + m ≤ sz) (hL : L = min (n + m) sz) (hx : nxR = (nx + (n + m - L)) % sz) : ((nxR : Int) != (nx : Int) % (sz : Int)) = false := by
  rw [bne_eq_false_iff_eq, hx, show n + m - L = 0 by omega, Nat.add_zero, Int.natCast_emod]

theorem next_over {sz nx n m L nxR : Nat} (h : sz < n + m) (hL : L = min (n + m) sz) (hx : nxR = (nx + (n + m - L)) % sz) : ((nxR : Int) != ((nx : Int) + ((n : Int) + (m : Int))) % (sz : Int)) = false := by
  have e : (nx + (n + m - L)) % sz = (nx + (n + m)) % sz := by
    rw [← Nat.add_mod_right (nx + (n + m - L)) sz]
    congr 1
    omega
  rw [bne_eq_false_iff_eq, hx, e, Int.natCast_emod, Int.natCast_add, Int.natCast_add]

theorem not_turned_p {ap ao : Option Addr} {m z0 z1 z2 R z3 : Nat} (hp : 0 < m → ∀ x, ap = some x → x.block < z1 ∧ z0 ≤ x.block) (hb : ∀ x : Addr, ao = some x → z1 ≤ x.block ∧ x.block < z2) (h2 : z2 < R) (h3 : R < z3) (hz : z1 ≤ z2) :
    0 < m → ∀ x, ap = some x → ¬ Turned R ao z3 x.block := by
  intro hm x hx ht
  have h := hp hm x hx
  rcases ht with e | ⟨y, hy, e⟩ | e
  · omega
  · have := hb y hy; omega
  · omega

theorem not_turned_s {ao : Option Addr} {z1 z2 R z3 n c : Nat} (hb : ∀ x : Addr, ao = some x → z1 ≤ x.block ∧ x.block < z2) (h2 : z2 < R) (h3 : R < z3) :
    ∀ k, (Value.slice (some ⟨z2, 0, none⟩) n c).ownBlock = some k → ¬ Turned R ao z3 k := by
  intro k hk ht
  simp [Value.ownBlock] at hk
  subst hk
  rcases ht with e | ⟨y, hy, e⟩ | e
  · omega
  · have := hb y hy; omega
  · omega

theorem turned_ge {ao : Option Addr} {z0 z1 z2 R z3 : Nat} (hb : ∀ x : Addr, ao = some x → z1 ≤ x.block ∧ x.block < z2) (h0 : z0 ≤ z1) (hR : z0 ≤ R) (h3 : z0 ≤ z3) : ∀ k, Turned R ao z3 k → z0 ≤ k := by
  rintro k (e | ⟨y, hy, e⟩ | e)
  · omega
  · have := hb y hy; omega
  · omega

/-- What a write leaves, whatever was written. -/
def After (S : Nat → Prop) (w : World) (R B : Nat) (sz nx m : Nat) (ao : Option Addr) (a3 : Int) (stream : List Int) (e : Ending) (w' : World) : Prop :=
  e = .returned (.tuple #[]) ∧ ∃ aoR capR L zs nxR wrR, RingAt w' R sz aoR L capR (nxR : Nat) wrR ∧ w'.ownsRow B 5 1 (.slice aoR L capR) L (ints zs) ∧ Kept S w w' ∧ zs.length = L ∧ Plain.Good sz nx stream zs stream.length nxR ∧
    (wrR != wrap64 (a3 + (m : Int))) = false ∧ (m = 0 → aoR = ao)

theorem wrap_self (a3 : Int) (m : Nat) (hm : m = 0) (b3 : -9223372036854775808 ≤ a3) (c3 : a3 ≤ 9223372036854775807) : (a3 != wrap64 (a3 + (m : Int))) = false := by
  subst hm
  have : wrap64 (a3 + ((0 : Nat) : Int)) = a3 := by unfold wrap64; omega
  rw [this]
  simp

theorem zzwrite_any (R B : Nat) (sz nx n m mc : Nat) (a3 : Int) (ao ap : Option Addr) (xs ps : List Int) (w : World)
    (hring : RingAt w R sz ao n n nx a3) (hown : w.ownsRow B 5 1 (.slice ao n n) n (ints xs)) (hB : B ≤ w.heap.size)
    (hp : Row w ap m ps) (hpl : ps.length = m) (hxl : xs.length = n) (hm2 : m ≤ 1048576) (hmc : m ≤ mc) (hmcm : mc ≤ 9223372036854775807) (hsz : 1 ≤ sz) (hsz2 : sz ≤ 65536) (hn : n ≤ sz) (hnx : nx < sz) (h0 : n < sz → nx = 0)
    (b3 : -9223372036854775808 ≤ a3) (c3 : a3 ≤ 9223372036854775807) (hSp : 0 < m → ∀ x, ap = some x → ¬ Turned R ao w.heap.size x.block) :
    Calls Try.prog 24 #[.pointer (some ⟨R, 0, none⟩), .slice ap m mc] w (After (Turned R ao w.heap.size) w R B sz nx m ao a3 (Plain.rot sz nx xs ++ ps)) := by
  by_cases hm : m = 0
  · refine (zzwrite_zero R ap m mc w hm).mono ?_
    rintro e w' ⟨rfl, rfl⟩
    refine ⟨rfl, ao, n, n, xs, nx, a3, hring, hown, Kept.refl _ _, hxl, ?_, wrap_self a3 m hm b3 c3, fun _ => rfl⟩
    have hs := Plain.start sz nx xs ps (by omega) hnx
    have e : (Plain.rot sz nx xs ++ ps).length = xs.length := by rw [List.length_append, Plain.length_rot]; omega
    rw [e]
    exact hs
  · rcases hp with h | ⟨pb, po, rfl, hc⟩
    · omega
    · refine (zzwrite_pos R B sz nx n m mc a3 ao pb po xs ps w hring hown hB (.inr ⟨pb, po, rfl, hc⟩) hpl hxl (by omega) hm2 hmc hmcm (by omega) hsz2 hn hnx h0 (hSp (by omega) _ rfl)).mono ?_
      rintro e w' ⟨rfl, aoR, capR, zs, nxR, hr, ho, hk, hg⟩
      exact ⟨rfl, aoR, capR, zs.length, zs, nxR, _, hr, ho, hk, rfl, hg, by simp, fun h => absurd h hm⟩

end Go.Proofs.Qxb6601367a.Bytes
