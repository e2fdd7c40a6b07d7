/-
  Slices of bytes of this program: what a slice holds ('Row'); which blocks a step leaves alone ('Kept'); the contracts of zzBytes (21) and cloneBytes_store_b1 (22).
-/
import Derived.Test.Qxb6601367aProg
import Derived.WalkKit
import Derived.WalkSpells
import Derived.Deep.QuietTactic
import Derived.BigQuiet
import Derived.Laws.CopyOwn
import Derived.ArgAppend
import Derived.Laws.AppendOwnNone
namespace Go.Proofs.Qxb6601367a.Bytes
open Go.RowKit

theorem info5 : (Try.prog.info? 5).map (fun i => (i.zero, i.size, i.bytes)) = some (some (.int .u8 0), 1, 1) := by kernel_rfl

/-- The first 'len' elements of the slice value at 'a' are the first bytes of 'xs'. -/
def Row (w : World) (a : Option Addr) (len : Nat) (xs : List Int) : Prop :=
  len = 0 ∨ ∃ b off, a = some ⟨b, off, none⟩ ∧ ∀ i, i < len → w.cell? ⟨b, off + i, none⟩ = some (.int .u8 (xs.getD i 0))

theorem Row.drew {w : World} {a : Option Addr} {len : Nat} {xs : List Int} (h : Row w a len xs) (n : Nat) : Row (w.drewN n) a len xs := h

theorem Row.later {w w' : World} {a : Option Addr} {len : Nat} {xs : List Int} (h : Row w a len xs) (hb : Below w.heap.size w w') : Row w' a len xs := by
  rcases h with h | ⟨b, off, rfl, hc⟩
  · exact .inl h
  · exact .inr ⟨b, off, rfl, fun i hi => cell_later hb (hc i hi)⟩

/-- Bytes as cells. -/
def ints (xs : List Int) : List Value := xs.map (Value.int .u8)

theorem length_ints (xs : List Int) : (ints xs).length = xs.length := by simp [ints]

theorem get_ints (xs : List Int) (i : Nat) (h : i < xs.length) : (ints xs)[i]? = some (.int .u8 (xs.getD i 0)) := by
  simp [ints, List.getD_eq_getElem?_getD, List.getElem?_eq_getElem h]

theorem get_ints' (xs : List Int) (i : Nat) (v : Value) (h : (ints xs)[i]? = some v) : i < xs.length ∧ v = .int .u8 (xs.getD i 0) := by
  have hi : i < xs.length := by
    have := (List.getElem?_eq_some_iff.1 h).1
    rwa [length_ints] at this
  rw [get_ints xs i hi] at h
  exact ⟨hi, by simpa using h.symm⟩

theorem one_ints (xs : List Int) : ∀ v ∈ ints xs, v.oneCell' = true := by
  intro v hv
  simp only [ints, List.mem_map] at hv
  obtain ⟨s, _, rfl⟩ := hv
  rfl

theorem add_at (b off i : Nat) : (⟨b, off, none⟩ : Addr).add i = ⟨b, off + i, none⟩ := by
  unfold Addr.add
  split <;> simp_all

/-- What is owned can be read. -/
theorem row_of_owns {w : World} {base n len cap : Nat} {ao : Option Addr} {xs : List Int} (h : w.ownsRow base 5 1 (.slice ao len cap) n (ints xs)) : Row w ao n xs := by
  obtain ⟨h1, h2⟩ := h
  rcases h2 with ⟨_, h2⟩ | ⟨g, cap', cur, hv, _, hh, hn, _, hs, ht⟩
  · exact .inl h2
  · simp only [Value.slice.injEq] at hv
    obtain ⟨rfl, rfl, rfl⟩ := hv
    rw [length_ints] at h1
    refine .inr ⟨g, 0, rfl, fun i hi => ?_⟩
    rw [cell_of_row w g (0 + i) _ _ _ hh, Nat.zero_add, ← Array.getElem?_toList]
    have := get_ints xs i (by omega)
    rw [← ht, List.getElem?_take, if_pos (by omega)] at this
    exact this

theorem owns_later {w w' : World} {base n size : Nat} {e : TypeId} {v : Value} {xs : List Value} (h : w.ownsRow base e size v n xs) (hb : Below w.heap.size w w') : w'.ownsRow base e size v n xs := by
  obtain ⟨h1, h2⟩ := h
  refine ⟨h1, ?_⟩
  rcases h2 with h2 | ⟨g, cap, cur, hv, hg, hh, r⟩
  · exact .inl h2
  · exact .inr ⟨g, cap, cur, hv, hg, by rw [hb.block g (lt_of_block hh)]; exact hh, r⟩

theorem owns_mono {w : World} {base base' n size : Nat} {e : TypeId} {v : Value} {xs : List Value} (h : w.ownsRow base e size v n xs) (hb : base' ≤ base) : w.ownsRow base' e size v n xs := by
  obtain ⟨h1, h2⟩ := h
  refine ⟨h1, ?_⟩
  rcases h2 with h2 | ⟨g, cap, cur, hv, hg, hh, r⟩
  · exact .inl h2
  · exact .inr ⟨g, cap, cur, hv, by omega, hh, r⟩

theorem block_of_owns {w : World} {base g n : Nat} {e : TypeId} {xs : List Value} (h : w.ownsRow base e 1 (.slice (some ⟨g, 0, none⟩) n n) n xs) :
    w.heap[g]? = some (.cells xs.toArray e (0, 0)) := by
  obtain ⟨h1, h2⟩ := h
  rcases h2 with ⟨h2, _⟩ | ⟨g', cap, cur, hv, _, hh, _, _, hs, ht⟩
  · simp at h2
  · simp at hv
    obtain ⟨rfl, rfl⟩ := hv
    rw [List.take_of_length_le (by simp; omega)] at ht
    rw [hh, ← ht]

theorem owns_of_block {w : World} {base g n : Nat} {e : TypeId} {xs : List Value} (h : w.heap[g]? = some (.cells xs.toArray e (0, 0))) (hb : base ≤ g) (hl : xs.length = n) (hm : n ≤ maxLen) :
    w.ownsRow base e 1 (.slice (some ⟨g, 0, none⟩) n n) n xs :=
  ⟨by omega, .inr ⟨g, n, xs.toArray, rfl, hb, h, Nat.le_refl _, hm, by simp [hl], by simp [List.take_of_length_le, hl]⟩⟩

theorem block_set {w : World} {g k : Nat} {L : List Value} {t : TypeId} (h : w.heap[g]? = some (.cells L.toArray t (0, 0))) (u : Value) :
    (w.setCell ⟨g, k, none⟩ u).heap[g]? = some (.cells (L.set k u).toArray t (0, 0)) := by
  have hlt := lt_of_block h
  have h' : w.heap[g] = .cells L.toArray t (0, 0) := by simpa [Array.getElem?_eq_getElem hlt] using h
  show (w.heap.modify g _)[g]? = _
  rw [Array.getElem?_eq_getElem (by simpa using hlt), Array.getElem_modify_self, h']
  simp [Array.setIfInBounds]
  exact fun h => (List.set_eq_of_length_le h).symm

theorem below_cell {B : Nat} {w w' : World} {x : Addr} {v : Value} (hb : Below B w w') (hx : x.block < B) (h : w.cell? x = some v) : w'.cell? x = some v := (hb.cell hx).trans h

theorem row_below {B : Nat} {w w' : World} {a : Option Addr} {len : Nat} {xs : List Int} (h : Row w a len xs) (hb : Below B w w') (hx : ∀ x, a = some x → x.block < B) : Row w' a len xs := by
  rcases h with h | ⟨b, off, rfl, hc⟩
  · exact .inl h
  · exact .inr ⟨b, off, rfl, fun i hi => below_cell hb (show b < B from hx ⟨b, off, none⟩ rfl) (hc i hi)⟩

theorem news_of {w : World} {x : Addr} {m : Nat} {ps : List Int} (hpl : ps.length = m) (hp : Row w (some x) m ps) : ∀ j u, (ints ps)[j]? = some u → w.cell? (x.add j) = some u := by
  intro j u hu
  obtain ⟨hj, rfl⟩ := get_ints' ps j u hu
  rcases hp with h | ⟨b, off, hx, hc⟩
  · omega
  · simp only [Option.some.injEq] at hx
    subst hx
    rw [add_at]
    exact hc j (by omega)

theorem ints_app (xs ys : List Int) : ints xs ++ ints ys = ints (xs ++ ys) := by simp [ints]

theorem shape_of_owns {w : World} {base n : Nat} {e : TypeId} {v : Value} {xs : List Value} (h : w.ownsRow base e 1 v n xs) : ∃ ao cap, v = .slice ao n cap := by
  rcases h.2 with ⟨rfl, rfl⟩ | ⟨g, cap, cur, hv, _⟩
  · exact ⟨none, 0, rfl⟩
  · exact ⟨_, _, hv⟩

/-- What clone gives. -/
def Cloned (w : World) (a : Option Addr) (len : Nat) (xs : List Int) (e : Ending) (w' : World) : Prop :=
  ∃ ao, e = .returned (.slice ao len len) ∧ (ao = none ↔ a = none) ∧ w'.ownsRow w.heap.size 5 1 (.slice ao len len) len (ints xs) ∧ Below w.heap.size w w'

theorem splice_all {cur cs : List Value} (h : cs.length = cur.length) : splice cur 0 cs = cs := by
  simp [splice, h]

set_option maxHeartbeats 400000 in
theorem clone_any (a : Option Addr) (len cap : Nat) (xs : List Int) (w : World) (hnil : a = none → len = 0) (hm : len ≤ 1048576) (hlen : xs.length = len) (hrow : Row w a len xs) :
    Calls Try.prog 22 #[.slice a len cap] w (Cloned w a len xs) := by
  have q : ∀ (w : World) (a : Option Addr) (n c : Nat), (binOp .eql 23 (.slice a n c) (.slice none 0 0)).run Try.prog w = .ok (.bool a.isNone) w := fun w a n c => Lib.run_eql_slice_nil w 23 5 a n c 0 0 Try.underlying23
  have HL : Hid (xs.length = len) := hlen
  clear hlen
  cases a with
  | none =>
    obtain rfl := hnil rfl
    clear hnil
    go_enter Try.func22, Try.ntmps22
    go_wp2
    go_ret
    obtain rfl : xs = [] := List.eq_nil_of_length_eq_zero HL.out
    exact ⟨none, rfl, Iff.rfl, World.ownsRow_nil _ _ _ _, Below.refl _ _⟩
  | some x =>
    clear hnil
    obtain ⟨i0, hi, hz0, hz1, hz2⟩ := info_parts info5
    go_enter Try.func22, Try.ntmps22
    go_wp2_with (at_make; refine wpList_make_full _ rfl _ _ 23 rfl w.heap.size 5 i0 (.int .u8 0) 1 Try.underlying23 hi hz0 hz1 .i64 .i64 _ _ len rfl rfl rfl rfl ?b2 ?b3 ?b4 ?_)
    case b2 => rw [hz2]; omega
    case b3 => unfold maxLen; omega
    case b4 => exact Nat.le_refl _
    intro w1 hown hgrow
    obtain ⟨cur, HG, HC⟩ : ∃ cur : List Value, Hid (w1.heap[w.heap.size]? = some (.cells cur.toArray 5 (0, 0))) ∧ Hid (cur.length = len) :=
      ⟨_, block_of_owns hown, show _ = _ by have := hown.1; simpa using this⟩
    have hb1 : Below w.heap.size w w1 := (Below.refl _ _).grown hgrow (Nat.le_refl _) (by simp)
    have hsz : (Try.prog.info? 5).map (·.size) = some 1 := by rw [hi]; simp [hz1]
    have hrow1 : Row w1 (some x) len xs := hrow.later hb1
    clear hown hgrow
    go_wp2_with (refine wpList_copy_splice rfl (.tmp 9) (.tmp 10) 23 23 rfl 5 Try.underlying23 hsz _ _ _ _ _ _ rfl rfl w.heap.size 0 cur 5 HG.out (ints xs) ?n ?pos ?fit ?one w.heap.size w hb1 (Nat.le_refl _) ?_)
    case n => rw [length_ints, HL.out]; exact (Nat.min_self _).symm
    case pos => exact fun _ j v hv => news_of HL.out hrow1 j v hv
    case fit => rw [length_ints, HL.out, HC.out]; omega
    case one => exact one_ints xs
    intro w2 HG2 hb2
    have hg := HG2.out
    rw [splice_all (by rw [length_ints, HL.out, HC.out])] at hg
    have HO : Hid (w2.ownsRow w.heap.size 5 1 (.slice (some ⟨w.heap.size, 0, none⟩) len len) len (ints xs)) := owns_of_block hg (Nat.le_refl _) (by rw [length_ints]; exact HL.out) (by unfold maxLen; omega)
    clear hg HG2 HG HC
    go_wp2
    go_ret
    exact ⟨_, rfl, by simp, HO.out, hb2⟩

/-- It returned, and a bool. -/
def ABool (e : Ending) : Prop := ∃ b : Bool, e = .returned (.bool b)

set_option maxHeartbeats 400000 in
theorem bytes21_any (s : Int) (a : Option Addr) (len cap : Nat) (nx wr : Int) (a' : Option Addr) (len' cap' : Nat) (w : World) (hm : len ≤ 9223372036854775807) (hm' : len' ≤ 9223372036854775807) :
    Calls Try.prog 21 #[.int .i64 s, .slice a len cap, .int .i64 nx, .int .i64 wr, .slice a' len' cap'] w fun e w' => ABool e ∧ w = w' := by
  go_enter Try.func21, Try.ntmps21
  go_wp2
  all_goals
    go_ret
    exact ⟨⟨_, rfl⟩, rfl⟩

end Go.Proofs.Qxb6601367a.Bytes
