/-
  appendParams (11), appendOrigin (10), ZZAppendOrigin (7), appendReplyFlags (9), ZZAppendReplyFlags (6).
-/
import Derived.Test.Qxb6601292aBytes
import Derived.ArgAppend
import Derived.Laws.AppendOwnNone
namespace Go.Proofs.Qxb6601292a.Bytes
open Go.RowKit

/-- What an append leaves: a slice value that owns the bytes 'ys', in a block from 'B' on; below B nothing has turned. -/
def Has (B : Nat) (w : World) (ys : List Int) (n : Nat) (e : Ending) (w' : World) : Prop :=
  ∃ ao cap, e = .returned (.slice ao n cap) ∧ w'.ownsRow B 5 1 (.slice ao n cap) n (ints ys) ∧ Below B w w'

theorem shape_of_owns {w : World} {base n : Nat} {e : TypeId} {v : Value} {xs : List Value} (h : w.ownsRow base e 1 v n xs) : ∃ ao cap, v = .slice ao n cap := by
  rcases h.2 with ⟨rfl, rfl⟩ | ⟨g, cap, cur, hv, _⟩
  · exact ⟨none, 0, rfl⟩
  · exact ⟨_, _, hv⟩

theorem own_ge {w : World} {base n : Nat} {e : TypeId} {v : Value} {xs : List Value} (h : w.ownsRow base e 1 v n xs) : ∀ k, v.ownBlock = some k → base ≤ k := fun k hk => (h.lt k hk).1

theorem ints_app (xs ys : List Int) : ints xs ++ ints ys = ints (xs ++ ys) := by simp [ints]

theorem below_cell {B : Nat} {w w' : World} {x : Addr} {v : Value} (hb : Below B w w') (hx : x.block < B) (h : w.cell? x = some v) : w'.cell? x = some v := (hb.cell hx).trans h

theorem row_below {B : Nat} {w w' : World} {a : Option Addr} {len : Nat} {xs : List Int} (h : Row w a len xs) (hb : Below B w w') (hx : ∀ x, a = some x → x.block < B) : Row w' a len xs := by
  rcases h with h | ⟨b, off, rfl, hc⟩
  · exact .inl h
  · exact .inr ⟨b, off, rfl, fun i hi => below_cell hb (show b < B from hx ⟨b, off, none⟩ rfl) (hc i hi)⟩

theorem news_of {w : World} {x : Addr} {m : Nat} {ps : List Int} (hpl : ps.length = m) (hp : Row w (some x) m ps) : ∀ j u, (ints ps)[j]? = some u → w.cell? (x.add j) = some u := by
  intro j u hu
  obtain ⟨hj, rfl⟩ := get_ints' ps j u hu
  rcases hp with h | ⟨b, off, hx, hc⟩
  · omega
  · simp only [Option.some.injEq] at hx
    subst hx
    rw [add_at]
    exact hc j (by omega)

set_option maxHeartbeats 400000 in
theorem params_any (B : Nat) (ao : Option Addr) (n cap : Nat) (xs : List Int) (ap : Option Addr) (m mc : Nat) (ps ys : List Int) (N : Nat) (w : World) (hB : B ≤ w.heap.size)
    (hown : w.ownsRow B 5 1 (.slice ao n cap) n (ints xs)) (hn : n ≤ 2097152) (hm : m ≤ 255) (hpl : ps.length = m) (hnil : ap = none → m = 0 ∧ mc = 0) (hp : Row w ap m ps) (hpb : ∀ x, ap = some x → x.block < B)
    (HY : Hid (ys = xs ++ [(m : Int)] ++ ps)) (HN : Hid (N = n + 1 + m)) :
    Calls Try.prog 11 #[.slice ao n cap, .slice ap m mc] w (Has B w ys N) := by
  obtain ⟨i0, hi, hz0, hz1, hz2⟩ := info_parts info5
  have HPL : Hid (ps.length = m) := hpl
  have HPB : Hid (∀ x, ap = some x → x.block < B) := hpb
  have HNil : Hid (ap = none → m = 0 ∧ mc = 0) := hnil
  clear hpl hpb hnil
  go_enter Try.func11, Try.ntmps11
  go_wp2_with (at_builtin; refine wpList_append_own _ rfl (.tmp 5) (.tmp 9) 22 rfl B 5 i0 (.int .u8 0) 1 1 Try.underlying22 hi hz0 hz1 hz2 rfl (by decide) _ n (ints xs) rfl (hown.alloc _) ⟨w.heap.size, 0, none⟩ 1 1 [.int .u8 m] rfl rfl ?c1 ?c2 ?c3 ?c4 ?c5 ?_)
  case c1 => exact cell_one_new _ _ _
  case c2 => intro u hu; simp at hu; subst hu; rfl
  case c3 => unfold maxLen; omega
  case c4 => omega
  case c5 => simp; omega
  intro v' w1 hown1 hgrow1 _
  obtain ⟨ao1, cap1, hv⟩ := shape_of_owns hown1
  subst hv
  have hb1 : Below B w w1 := ((Below.refl B w).alloc hB _).grown hgrow1 (by simp; omega) (own_ge hown)
  have hp1 : Row w1 ap m ps := row_below hp hb1 HPB.out
  have hB1 : B ≤ w1.heap.size := Nat.le_trans hB hb1.size
  clear hgrow1 hown hp
  cases ap with
  | none =>
    obtain ⟨rfl, rfl⟩ := HNil.out rfl
    have HO : Hid (w1.ownsRow B 5 1 (.slice ao1 N cap1) N (ints ys)) := by
      rw [HY.out, HN.out, List.eq_nil_of_length_eq_zero HPL.out, List.append_nil, ← ints_app]
      exact hown1
    go_wp2_with (at_builtin; refine wpList_append_own_none rfl (.tmp 11) (.tmp 12) 22 rfl B 5 i0 1 Try.underlying22 hi _ _ _ rfl hown1 rfl ?_)
    go_ret
    have hN := HN.out
    simp only [Nat.add_zero] at hN
    subst hN
    exact ⟨ao1, cap1, rfl, HO.out, hb1⟩
  | some x =>
    go_wp2_with (at_builtin; refine wpList_append_own _ rfl (.tmp 11) (.tmp 12) 22 rfl B 5 i0 (.int .u8 0) 1 1 Try.underlying22 hi hz0 hz1 hz2 rfl (by decide) (.slice ao1 (n + 1) cap1) (n + 1) (ints xs ++ [Value.int .u8 (m : Int)]) rfl hown1 x m mc (ints ps) rfl ?d0 ?d1 ?d2 ?d3 ?d4 ?d5 ?_)
    case d0 => rw [length_ints, HPL.out]; omega
    case d1 => exact news_of HPL.out hp1
    case d2 => exact one_ints ps
    case d3 => unfold maxLen; omega
    case d4 => omega
    case d5 => exact hB1
    intro v' w2 hown2 hgrow2 _
    obtain ⟨ao2, cap2, hv⟩ := shape_of_owns hown2
    subst hv
    have hb2 : Below B w w2 := hb1.grown hgrow2 hB1 (own_ge hown1)
    have HO : Hid (w2.ownsRow B 5 1 (.slice ao2 N cap2) N (ints ys)) := by
      rw [HY.out, HN.out, ← ints_app, ← ints_app, List.append_assoc]
      exact hown2
    clear hown2 hgrow2
    go_wp2
    go_ret
    have hN := HN.out
    subst hN
    exact ⟨ao2, cap2, rfl, HO.out, hb2⟩

theorem row_alloc {w : World} {a : Option Addr} {len : Nat} {xs : List Int} (h : Row w a len xs) (o : Obj) : Row (w.alloc o) a len xs :=
  h.later ((Below.refl _ _).alloc (Nat.le_refl _) o)

set_option maxHeartbeats 400000 in
theorem origin_no (B : Nat) (ao : Option Addr) (n cap : Nat) (xs : List Int) (o : Int) (ap : Option Addr) (m mc : Nat) (w : World) (hB : B ≤ w.heap.size)
    (hown : w.ownsRow B 5 1 (.slice ao n cap) n (ints xs)) (ho : (o != 2) = true) :
    Calls Try.prog 7 #[.slice ao n cap, .int .u8 o, .slice ap m mc] w (Has B w xs n) := by
  go_enter Try.func7, Try.ntmps7
  go_wp2
  go_ret
  exact ⟨ao, cap, rfl, hown.alloc _, (Below.refl B w).alloc hB _⟩

set_option maxHeartbeats 400000 in
theorem origin_yes (B : Nat) (ao : Option Addr) (n cap : Nat) (xs : List Int) (ap : Option Addr) (m mc : Nat) (ps ys : List Int) (N : Nat) (w : World) (hB : B ≤ w.heap.size)
    (hown : w.ownsRow B 5 1 (.slice ao n cap) n (ints xs)) (hn : n ≤ 2097152) (hm : m ≤ 255) (hpl : ps.length = m) (hnil : ap = none → m = 0 ∧ mc = 0) (hp : Row w ap m ps) (hpb : ∀ x, ap = some x → x.block < B)
    (HY : Hid (ys = xs ++ [(m : Int)] ++ ps)) (HN : Hid (N = n + 1 + m)) :
    Calls Try.prog 7 #[.slice ao n cap, .int .u8 2, .slice ap m mc] w (Has B w ys N) := by
  have HPL : Hid (ps.length = m) := hpl
  have HPB : Hid (∀ x, ap = some x → x.block < B) := hpb
  have HNil : Hid (ap = none → m = 0 ∧ mc = 0) := hnil
  clear hpl hpb hnil
  go_enter Try.func7, Try.ntmps7
  go_wp2_with (first | (go_at_call 11; refine (params_any B ao n cap xs ap m mc ps ys N _ (by simp; omega) (hown.alloc _) hn hm HPL.out HNil.out (row_alloc hp _) HPB.out HY HN).mono ?_; rintro e w' ⟨ao', cap', rfl, hown', hb'⟩) | go_in)
  go_ret
  exact ⟨ao', cap', rfl, hown', ((Below.refl B w).alloc hB _).trans hb'⟩

end Go.Proofs.Qxb6601292a.Bytes
