/-
  (*ring).write (32) and ZZRingWrite (24).
-/
import Derived.Test.Qxb6601367aRing
namespace Go.Proofs.Qxb6601367a.Bytes
open Go.RowKit

set_option maxHeartbeats 400000 in
theorem write32_none (R : Nat) (ap : Option Addr) (mc : Nat) (w : World) :
    Calls Try.prog 32 #[.pointer (some ⟨R, 0, none⟩), .slice ap 0 mc] w fun e w' => e = .returned (.tuple #[]) ∧ w = w' := by
  go_enter Try.func32, Try.ntmps32
  go_wp2
  (try simp only [Exit.inBlock, Exit.then])
  refine bodyPost_ret (results_none rfl _ _ _) rfl ?_
  exact ⟨rfl, rfl⟩

set_option maxHeartbeats 400000 in
theorem write_none (R : Nat) (ap : Option Addr) (mc : Nat) (w : World) :
    Calls Try.prog 24 #[.pointer (some ⟨R, 0, none⟩), .slice ap 0 mc] w fun e w' => e = .returned (.tuple #[]) ∧ w = w' := by
  go_enter Try.func24, Try.ntmps24
  go_wp2_with fail
  refine (write32_none R ap mc w).mono ?_
  rintro e w' ⟨rfl, rfl⟩
  go_wp2
  go_end0
  exact ⟨rfl, rfl⟩

theorem row_take {w : World} {a : Option Addr} {m k : Nat} {ps : List Int} (h : Row w a m ps) (hk : k ≤ m) : Row w a k (ps.take k) := by
  rcases h with h | ⟨b, off, rfl, hc⟩
  · exact .inl (by omega)
  · refine .inr ⟨b, off, rfl, fun i hi => ?_⟩
    rw [hc i (by omega), Plain.get_take _ _ _ hi]

theorem fill_eq {size n m fill : Nat} (hn : n ≤ size) (h : fill = min (size - n) m) : (if (m : Int) < (size : Int) - (n : Int) then (m : Int) else (size : Int) - (n : Int)) = (fill : Int) := by
  split <;> omega

/-- The length of a slice value: for a loop's measure. -/
def lenOf : Value → Nat | .slice _ n _ => n | _ => 0

theorem take_splice {α : Type} (cur cs : List α) (N i : Nat) (hN : N ≤ cur.length) (h : i + cs.length ≤ N) :
    (splice cur i cs).take N = (cur.take N).take i ++ (cs ++ (cur.take N).drop (i + cs.length)) := by
  apply List.ext_getElem?
  intro j
  simp only [splice, List.getElem?_append, List.getElem?_take, List.getElem?_drop, List.length_take]
  by_cases h1 : j < i
  · simp [show j < N by omega, show j < min i cur.length by omega, show j < min i (min N cur.length) by omega, h1]
  · by_cases h2 : j < i + cs.length
    · simp [show j < N by omega, show ¬ j < min i cur.length by omega, show ¬ j < min i (min N cur.length) by omega, show j - min i cur.length < cs.length by omega, show j - min i (min N cur.length) < cs.length by omega]
      congr 1
      omega
    · by_cases h3 : j < N
      · simp [h3, show ¬ j < min i cur.length by omega, show ¬ j < min i (min N cur.length) by omega, show ¬ j - min i cur.length < cs.length by omega, show ¬ j - min i (min N cur.length) < cs.length by omega]
        rw [if_pos (by omega)]
        congr 1
        omega
      · simp [h3, show ¬ j < min i (min N cur.length) by omega, show ¬ j - min i (min N cur.length) < cs.length by omega]
        omega

theorem ints_over (zs cs : List Int) (i : Nat) : ints (Plain.over zs i cs) = (ints zs).take i ++ (ints cs ++ (ints zs).drop (i + (ints cs).length)) := by
  simp [ints, Plain.over, List.map_take, List.map_drop]

/-- Behind a copy into the row: what it owns. -/
theorem copied {w : World} {B g cap N i : Nat} {zs cs : List Int} {cur : List Value} (hcur : cur.length = cap) (ht : cur.take N = ints zs) (hN : N ≤ cap) (hm : cap ≤ maxLen) (hfit : i + cs.length ≤ N) (hzs : zs.length = N) (hB : B ≤ g)
    (hg : w.heap[g]? = some (.cells (splice cur i (ints cs)).toArray 5 (0, 0))) : w.ownsRow B 5 1 (.slice (some ⟨g, 0, none⟩) N cap) N (ints (Plain.over zs i cs)) := by
  refine ⟨by rw [length_ints, Plain.length_over _ _ _ (by omega)]; omega, .inr ⟨g, cap, _, rfl, hB, hg, hN, hm, ?_, ?_⟩⟩
  · rw [Nat.mul_one, List.size_toArray, length_splice _ _ _ (by rw [length_ints]; omega), hcur]
  · rw [Nat.mul_one, List.toList_toArray, take_splice _ _ _ _ (by omega) (by rw [length_ints]; omega), ints_over, ht]

/-- An owned slice that is not empty: where it lies, and its block. -/
theorem open_block {w : World} {base n cap : Nat} {ao : Option Addr} {ys : List Int} (h : w.ownsRow base 5 1 (.slice ao n cap) n (ints ys)) (hn : 0 < n) :
    ∃ g cur, ao = some ⟨g, 0, none⟩ ∧ base ≤ g ∧ n ≤ cap ∧ cap ≤ maxLen ∧ w.heap[g]? = some (.cells (cur : List Value).toArray 5 (0, 0)) ∧ cur.length = cap ∧ cur.take n = ints ys := by
  obtain ⟨h1, h2⟩ := h
  rcases h2 with ⟨_, h2⟩ | ⟨g, cap', cur, hv, hb, hh, hnc, hm, hs, ht⟩
  · omega
  · simp only [Value.slice.injEq] at hv
    obtain ⟨rfl, _, rfl⟩ := hv
    exact ⟨g, cur.toList, rfl, hb, hnc, hm, by simpa using hh, by simpa using hs, by simpa using ht⟩

theorem drop_stream (a b : List Int) (n t : Nat) (h : a.length = n) : (a ++ b).drop (n + t) = b.drop t := by
  subst h
  rw [List.drop_append]
  simp

theorem row_drop {w : World} {b off m k : Nat} {ps : List Int} (h : Row w (some ⟨b, off, none⟩) m ps) (hk : k ≤ m) : Row w (some ⟨b, off + k, none⟩) (m - k) (ps.drop k) := by
  rcases h with h | ⟨b', off', e, hc⟩
  · exact .inl (by omega)
  · simp only [Option.some.injEq, Addr.mk.injEq] at e
    obtain ⟨rfl, rfl, _⟩ := e
    refine .inr ⟨b, off + k, rfl, fun i hi => ?_⟩
    rw [Nat.add_assoc, hc (k + i) (by omega), Plain.get_drop]

/-- The ring behind a write. -/
def Wrote (S : Nat → Prop) (w : World) (R B : Nat) (size next : Nat) (stream : List Int) (wr : Int) (e : Ending) (w' : World) : Prop :=
  e = .returned (.tuple #[]) ∧ ∃ ao cap zs nx, RingAt w' R size ao zs.length cap (nx : Nat) wr ∧ w'.ownsRow B 5 1 (.slice ao zs.length cap) zs.length (ints zs) ∧ Kept S w w' ∧ Plain.Good size next stream zs stream.length nx

set_option maxHeartbeats 2000000 in
theorem write_some (R B : Nat) (size next n cap m mc fill : Nat) (wr wr' : Int) (g pb po : Nat) (xs ps : List Int) (w : World) (S : Nat → Prop)
    (hring : RingAt w R size (some ⟨g, 0, none⟩) n cap next wr) (hown : w.ownsRow B 5 1 (.slice (some ⟨g, 0, none⟩) n cap) n (ints xs)) (hB : B ≤ w.heap.size)
    (hp : Row w (some ⟨pb, po, none⟩) m ps) (hpl : ps.length = m) (hxl : xs.length = n) (hm : 0 < m) (hm2 : m ≤ 1048576) (hmc : m ≤ mc) (hmcm : mc ≤ 9223372036854775807) (hsz : 0 < size) (hsz2 : size ≤ 65536) (hn : n ≤ size) (hnx : next < size) (h0 : n < size → next = 0)
    (HF : Hid (fill = min (size - n) m)) (HWR : Hid (wr' = wrap64 (wr + (m : Int)))) (HSR : Hid (S R)) (HSg : Hid (S g)) (HSn : Hid (∀ k, w.heap.size ≤ k → S k)) (HSp : Hid (¬ S pb)) :
    Calls Try.prog 32 #[.pointer (some ⟨R, 0, none⟩), .slice (some ⟨pb, po, none⟩) m mc] w (Wrote S w R B size next (Plain.rot size next xs ++ ps) wr') := by
  have q : ∀ (w : World) (a : Option Addr) (n c : Nat), (binOp .eql 23 (.slice a n c) (.slice none 0 0)).run Try.prog w = .ok (.bool a.isNone) w := fun w a n c => Lib.run_eql_slice_nil w 23 5 a n c 0 0 Try.underlying23
  have c0 := hring.c0
  have c1 := hring.c1
  have c3 := hring.c3
  have f3 := hring.free 3
  have hmz : ((m : Int) == 0) = false := beq_eq_false_iff_ne.2 (by omega)
  have HPL : Hid (ps.length = m) := hpl
  have HXL : Hid (xs.length = n) := hxl
  have H0 : Hid (n < size → next = 0) := h0
  clear hpl hxl h0
  go_enter Try.func32, Try.ntmps32
  go_wp2
  go_quiet (fail)
  rw [fill_eq hn HF.out]
  obtain ⟨W, HW⟩ : ∃ W, Hid (W = (w.setCell ⟨R, 3, none⟩ (.int .i64 (wrap64 (wr + (m : Int))))).drewN nq) := ⟨_, rfl⟩
  have hringW : RingAt W.drew R size (some ⟨g, 0, none⟩) n cap next wr' := by rw [HW.out, HWR.out]; exact hring.set3 _
  have hkW : Kept S w W := by rw [HW.out]; exact ((Kept.refl _ w).setCell _ HSR.out _).drawn _
  have hownW : W.drew.ownsRow B 5 1 (.slice (some ⟨g, 0, none⟩) n cap) n (ints xs) := by rw [HW.out]; exact ownsRow_setCell_other hown (hring.other hown) _
  have hpW : Row W.drew (some ⟨pb, po, none⟩) m ps := hp.kept hkW.drew (fun y hy => by simp only [Option.some.injEq] at hy; subst hy; exact HSp.out)
  rw [← HW.out]
  have hBW : B ≤ W.drew.heap.size := Nat.le_trans hB hkW.size
  have hfm : fill ≤ m := by have := HF.out; omega
  have hfs : n + fill ≤ size := by have := HF.out; omega
  have hfmc : fill ≤ mc := by omega
  have c1W := hringW.c1
  clear c0 c1 c3 f3 hown hring
  go_wp2
  go_region_law (refine step_append_ring rfl (.tmp 48) (.tmp 51) rfl B g n cap xs rfl hownW ⟨pb, po, none⟩ fill mc (ps.take fill) rfl HXL.out (by rw [List.length_take, HPL.out]; omega) (row_take hpW hfm) (by omega) hBW R size next _ hringW ?_; intro g' cap' w5 HO5 HG5 hk5 c15 f15)
  obtain ⟨V, HV⟩ : ∃ V, Hid (V = w5.setCell ⟨R, 1, none⟩ (.slice (some ⟨g', 0, none⟩) (n + fill) cap')) := ⟨_, rfl⟩
  have hring5 : RingAt w5 R size (some ⟨g, 0, none⟩) n cap next wr' := hringW.kept hk5 (fun e => (hringW.other hownW) (by simp [Value.ownBlock]; exact e.symm))
  have hringV : RingAt V R size (some ⟨g', 0, none⟩) (n + fill) cap' next wr' := by rw [HV.out]; exact hring5.set1 _ _ _
  have hownV : V.ownsRow B 5 1 (.slice (some ⟨g', 0, none⟩) (n + fill) cap') (n + fill) (ints (xs ++ ps.take fill)) := by rw [HV.out]; exact ownsRow_setCell_other HO5.out (hring5.other HO5.out) _
  have hkV : Kept S w V := by rw [HV.out]; exact ((hkW.drew).trans (hk5.mono (fun k hk => by subst hk; exact HSg.out))).setCell _ HSR.out _
  have hpV : Row V (some ⟨pb, po, none⟩) m ps := hp.kept hkV (fun y hy => by simp only [Option.some.injEq] at hy; subst hy; exact HSp.out)
  have HG : Hid (Plain.Good size next (Plain.rot size next xs ++ ps) (xs ++ ps.take fill) (n + fill) next) := by
    have hxl := HXL.out
    subst hxl
    exact Plain.filled size next fill xs ps hnx H0.out (by omega) (by rw [HPL.out]; omega)
  have HL : Hid ((xs ++ ps.take fill).length = n + fill) := show _ = _ by rw [List.length_append, List.length_take, HXL.out, HPL.out]; omega
  have HSL : Hid ((Plain.rot size next xs ++ ps).length = n + m) := show _ = _ by rw [List.length_append, Plain.length_rot, HXL.out, HPL.out]
  have HSg' : Hid (S g') := by
    rcases HG5.out with e | e
    · rw [e]; exact HSg.out
    · exact HSn.out _ (Nat.le_trans hkW.size e)
  rw [← HV.out]
  clear hringW hownW hpW c1W hk5 c15 f15 hring5 HO5 HV HW hkW hBW
  by_cases hc : fill = m
  · obtain rfl : m = fill := hc.symm
    clear hc
    go_wp2
    all_goals
      refine wp_loop_rounds 1 ?_
      rw [rounds_succ]
      go_wp2
      go_end0
      exact ⟨rfl, some ⟨g', 0, none⟩, cap', xs ++ ps.take m, next, by rw [HL.out]; exact hringV, by rw [HL.out]; exact hownV, hkV, by rw [HSL.out]; exact HG.out⟩
  · have HNS : Hid (n + fill = size) := show _ = _ by have := HF.out; omega
    have hfm' : fill < m := by omega
    clear hc hfm
    obtain ⟨g'', _, hgg0, hg'B, hcapN, hcapm, _⟩ := open_block hownV (by have := HNS.out; omega)
    simp only [Option.some.injEq, Addr.mk.injEq, and_true] at hgg0
    subst hgg0
    unfold maxLen at hcapm
    go_wp2
    go_loopw [1] (fun p wv => ∃ (t c : Nat) (x : Addr) (zs : List Int) (nx : Nat), fill ≤ t ∧ t ≤ m ∧ m - t ≤ c ∧ c ≤ 9223372036854775807 ∧ x.block = pb ∧ p = .slice (some x) (m - t) c ∧ Row wv (some x) (m - t) (ps.drop t) ∧
        RingAt wv R size (some ⟨g', 0, none⟩) (n + fill) cap' nx wr' ∧ wv.ownsRow B 5 1 (.slice (some ⟨g', 0, none⟩) (n + fill) cap') (n + fill) (ints zs) ∧ Kept S w wv ∧ Plain.Good size next (Plain.rot size next xs ++ ps) zs (n + t) nx)
      (fun p _ => lenOf p)
    case atStart => exact ⟨fill, mc - fill, ⟨pb, po + fill, none⟩, xs ++ ps.take fill, next, Nat.le_refl _, by omega, by omega, by omega, rfl, rfl, row_drop hpV (by omega), hringV, hownV, hkV, HG.out⟩
    case round =>
      obtain ⟨t, c, x, zs, nx, ht1, ht2, hc1, hc2, hxb, rfl, hrow, hr, ho, hk, hgood⟩ := hrel
      have HGd : Hid (Plain.Good size next (Plain.rot size next xs ++ ps) zs (n + t) nx) := hgood
      have HZL : Hid (zs.length = n + fill) := show _ = _ by have := hgood.len; have := HNS.out; omega
      clear hgood hringV hownV hkV hpV HG
      by_cases htm : t = m
      · have hz : ¬ (0 : Int) < ((m - t : Nat) : Int) := by omega
        have HGe : Hid (Plain.Good size next (Plain.rot size next xs ++ ps) zs (Plain.rot size next xs ++ ps).length nx) := by rw [HSL.out, ← htm]; exact HGd.out
        clear htm
        go_wp2
        go_end0
        exact ⟨rfl, _, cap', zs, nx, by rw [HZL.out]; exact hr, by rw [HZL.out]; exact ho, hk, HGe.out⟩
      · have hnxs : nx < n + fill := by have h1 := HGd.out.nx; have h2 := HNS.out; rw [h1, h2]; exact Nat.mod_lt _ hsz
        obtain ⟨k, HK⟩ : ∃ k, Hid (k = Nat.min (m - t) (n + fill - nx)) := ⟨_, rfl⟩
        have hk1 : k ≤ m - t := by rw [HK.out]; exact Nat.min_le_left _ _
        have hk2 : nx + k ≤ n + fill := by have : k ≤ n + fill - nx := by rw [HK.out]; exact Nat.min_le_right _ _
                                           omega
        have hk0 : 0 < k := by rw [HK.out]; exact Nat.lt_min.2 ⟨by omega, by omega⟩
        obtain ⟨nx', HNX⟩ : ∃ nx', Hid (nx' = (nx + k) % size) := ⟨_, rfl⟩
        have hrem : ((nx : Int) + (k : Int)).tmod (size : Int) = (nx' : Int) := by rw [HNX.out, Int.tmod_eq_emod_of_nonneg (by omega), Int.natCast_emod, Int.natCast_add]
        have hwrp : IntKind.i64.wrap ((nx : Int) + (k : Int)) = (nx : Int) + (k : Int) := by rw [IntKind.wrap_i64]; omega
        have hs0 : ¬ size = 0 := by omega
        rcases hrow with hrow | ⟨xb, xo, hx, hrow⟩
        · omega
        simp only [Option.some.injEq] at hx
        subst hx
        obtain rfl : xb = pb := hxb
        have HRow : Hid (Row wr (some ⟨xb, xo, none⟩) (m - t) (ps.drop t)) := .inr ⟨xb, xo, rfl, hrow⟩
        obtain ⟨g'', cur, hgg, _, _, _, hcur, hcl, hct⟩ := open_block ho (by omega)
        simp only [Option.some.injEq, Addr.mk.injEq, and_true] at hgg
        subst hgg
        have HCur : Hid (wr.drew.heap[g']? = some (.cells cur.toArray 5 (0, 0))) := hcur
        have HCL : Hid (cur.length = cap') := hcl
        have HCT : Hid (cur.take (n + fill) = ints zs) := hct
        have HDL : Hid (((ps.drop t).take k).length = k) := show _ = _ by rw [List.length_take, List.length_drop, HPL.out]; omega
        have HSrc : Hid (∀ j v, (ints ((ps.drop t).take k))[j]? = some v → wr.drew.cell? ((⟨xb, xo, none⟩ : Addr).add j) = some v) := news_of HDL.out (row_take HRow.out hk1)
        have c1 := hr.c1
        have c2 := hr.c2
        have hpos : (0 : Int) < ((m - t : Nat) : Int) := by omega
        have hnxle : (nx : Int) ≤ (n : Int) + (fill : Int) := by omega
        have hcne : ¬ cap' = nx := by omega
        clear hcur hcl hct hrow
        go_wp2
        go_region_law (refine step_copy_ring rfl (.tmp 69) (.tmp 70) rfl g' nx (n + fill - nx) (cap' - nx) ⟨xb, xo, none⟩ (m - t) c rfl rfl cur HCur.out (ints ((ps.drop t).take k)) k (by rw [length_ints]; exact HDL.out) HK.out HSrc.out (by rw [HCL.out]; omega) (one_ints _) ?_; intro w8 HG8 hk8)
        all_goals
          have hsn : ¬ R = g' := fun e => (hr.other ho) (by simp [Value.ownBlock]; exact e.symm)
          have hk8' : Kept (fun j => j = g') wr w8 := ⟨hk8.os, hk8.tape, hk8.output, hk8.size, hk8.block⟩
          have hr8 : RingAt w8.drew R size (some ⟨g', 0, none⟩) (n + fill) cap' nx wr' := hr.kept hk8'.drew hsn
          have HO8 : Hid (w8.ownsRow B 5 1 (.slice (some ⟨g', 0, none⟩) (n + fill) cap') (n + fill) (ints (Plain.over zs nx ((ps.drop t).take k)))) :=
            copied HCL.out HCT.out hcapN (by unfold maxLen; omega) (by rw [HDL.out]; omega) HZL.out hg'B HG8.out
          have c08 := hr8.c0
          have c28 := hr8.c2
          have f28 := hr8.free 2
          clear c1 c2 HG8 HSrc HCur HCL HCT
          have hrN : RingAt (w8.setCell ⟨R, 2, none⟩ (.int .i64 (nx' : Int))).drew R size (some ⟨g', 0, none⟩) (n + fill) cap' nx' wr' := hr8.set2 _
          have hoN : (w8.setCell ⟨R, 2, none⟩ (.int .i64 (nx' : Int))).drew.ownsRow B 5 1 (.slice (some ⟨g', 0, none⟩) (n + fill) cap') (n + fill) (ints (Plain.over zs nx ((ps.drop t).take k))) := ownsRow_setCell_other HO8.out (fun e => hsn (by simp [Value.ownBlock] at e; exact e.symm)) _
          have hkN : Kept S w (w8.setCell ⟨R, 2, none⟩ (.int .i64 (nx' : Int))).drew := ((hk.trans (hk8'.mono (fun j hj => by subst hj; exact HSg'.out))).setCell _ HSR.out _).drew
          have hpN : Row (w8.setCell ⟨R, 2, none⟩ (.int .i64 (nx' : Int))).drew (some ⟨xb, xo, none⟩) (m - t) (ps.drop t) :=
            HRow.out.kept (S := S) (((hk8'.mono (fun j hj => by subst hj; exact HSg'.out)).setCell _ HSR.out _).drew) (fun y hy => by simp only [Option.some.injEq] at hy; subst hy; exact HSp.out)
          have HGN : Hid (Plain.Good size next (Plain.rot size next xs ++ ps) (Plain.over zs nx ((ps.drop t).take k)) (n + (t + k)) nx') := by
            have hd : (Plain.rot size next xs ++ ps).drop (n + t) = ps.drop t := drop_stream _ _ _ _ (by rw [Plain.length_rot, HXL.out])
            rw [HNX.out, ← Nat.add_assoc, ← hd]
            exact Plain.step size next _ zs (n + t) nx k HGd.out (by rw [HZL.out, HNS.out]) (by rw [HSL.out]; omega) (by have := HNS.out; omega)
          have hpN' := row_drop hpN hk1
          rw [Nat.sub_sub, List.drop_drop] at hpN'
          clear hpN hr ho hk hk8 hk8' hr8 HO8 HRow HGd
          go_wp2
          go_region
        all_goals
          go_wp2
          refine ⟨?_, ?_⟩
          · by_cases hck : c = k
            · rw [if_pos hck]
              exact ⟨t + k, c - k, ⟨xb, xo, none⟩, _, nx', by omega, by omega, by omega, by omega, rfl, congrArg (fun l => Value.slice (some ⟨xb, xo, none⟩) l (c - k)) (Nat.sub_sub _ _ _), .inl (by omega), hrN, hoN, hkN, HGN.out⟩
            · rw [if_neg hck]
              exact ⟨t + k, c - k, ⟨xb, xo + k, none⟩, _, nx', by omega, by omega, by omega, by omega, rfl, congrArg (fun l => Value.slice (some ⟨xb, xo + k, none⟩) l (c - k)) (Nat.sub_sub _ _ _), hpN', hrN, hoN, hkN, HGN.out⟩
          · show m - t - k < m - t
            omega

end Go.Proofs.Qxb6601367a.Bytes
