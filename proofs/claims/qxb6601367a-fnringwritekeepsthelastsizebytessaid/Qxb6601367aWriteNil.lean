/-
  (*ring).write (32) where the ring has no buffer yet: it is made first; the rest goes as in the text for a ring that has one.
-/
import Derived.Test.Qxb6601367aWrite
namespace Go.Proofs.Qxb6601367a.Bytes
open Go.RowKit

theorem wpList_make_ring {w : World} {ops : Array Oper} {rest : List Oper} {o : Oper} {a : Act} {Q : Exit → Act → World → Prop} (hgd : o.guard = none) (l c : Operand) (hop : o.op = Op.makeSlice 23 l c)
    (size : Nat) (hl : a.eval l = .int .i64 0) (hc : a.eval c = .int .i64 (size : Int)) (hs : size ≤ 65536) (n g : Nat) (hn : n = 0) (hg : g = w.heap.size)
    (hK : ∀ w', w'.ownsRow w.heap.size 5 1 (.slice (some ⟨g, 0, none⟩) n size) n (ints []) → w.grownBy w' none → wpList Try.prog ops Q rest (a.put o.dst (.slice (some ⟨g, 0, none⟩) n size)) w') :
    wpList Try.prog ops Q (o :: rest) a w := by
  subst hn hg
  obtain ⟨i0, hi, hz0, hz1, hz2⟩ := info_parts info5
  exact wpList_make_own w hgd l c 23 hop w.heap.size 5 i0 (.int .u8 0) 1 Try.underlying23 hi hz0 hz1 .i64 .i64 _ size hl hc rfl (by rw [hz2]; omega) (by unfold maxLen; omega) (Nat.le_refl _) hK

set_option maxHeartbeats 2000000 in
theorem write_nil (R B : Nat) (size next n m mc fill : Nat) (wr wr' : Int) (g pb po : Nat) (xs ps : List Int) (w : World) (S : Nat → Prop)
    (hring : RingAt w R size none 0 0 next wr) (hB : B ≤ w.heap.size)
    (hp : Row w (some ⟨pb, po, none⟩) m ps) (hpl : ps.length = m) (hxl : xs.length = n) (hm : 0 < m) (hm2 : m ≤ 1048576) (hmc : m ≤ mc) (hmcm : mc ≤ 9223372036854775807) (hsz : 0 < size) (hsz2 : size ≤ 65536) (hn : n ≤ size) (hnx : next < size) (h0 : n < size → next = 0)
    (HN0 : Hid (n = 0)) (HGe : Hid (g = w.heap.size)) (HF : Hid (fill = min (size - n) m)) (HWR : Hid (wr' = wrap64 (wr + (m : Int)))) (HSR : Hid (S R)) (HSg : Hid (S g)) (HSn : Hid (∀ k, w.heap.size ≤ k → S k)) (HSp : Hid (¬ S pb)) :
    Calls Try.prog 32 #[.pointer (some ⟨R, 0, none⟩), .slice (some ⟨pb, po, none⟩) m mc] w (Wrote S w R B size next (Plain.rot size next xs ++ ps) wr') := by
  have q : ∀ (w : World) (a : Option Addr) (n c : Nat), (binOp .eql 23 (.slice a n c) (.slice none 0 0)).run Try.prog w = .ok (.bool a.isNone) w := fun w a n c => Lib.run_eql_slice_nil w 23 5 a n c 0 0 Try.underlying23
  have c0 := hring.c0
  have c1 := hring.c1
  have hmz : ((m : Int) == 0) = false := beq_eq_false_iff_ne.2 (by omega)
  have HPL : Hid (ps.length = m) := hpl
  have HXL : Hid (xs.length = n) := hxl
  have H0 : Hid (n < size → next = 0) := h0
  clear hpl hxl h0
  go_enter Try.func32, Try.ntmps32
  go_wp2_with (at_make; refine wpList_make_ring rfl _ _ rfl size rfl rfl hsz2 n g HN0.out HGe.out ?_)
  intro w1 hown1 hgrow
  have hk1 : Kept S w w1 := (Kept.refl _ w).grown hgrow (by simp)
  have hring1 : RingAt w1 R size none 0 0 next wr := hring.kept ((Kept.refl (fun _ => False) w).grown hgrow (by simp)) (fun h => h)
  have hown1' : w1.ownsRow B 5 1 (.slice (some ⟨g, 0, none⟩) n size) n (ints xs) := by
    rw [List.eq_nil_of_length_eq_zero (HXL.out.trans HN0.out)]
    exact owns_mono hown1 hB
  clear c0 c1 hgrow hring
  have c0 := hring1.c0
  have c1 := hring1.c1
  have c3 := hring1.c3
  have f1 := hring1.free 1
  have f3 := hring1.free 3
  go_wp2
  go_quiet (fail)
  rw [fill_eq hn HF.out]
  obtain ⟨W, HW⟩ : ∃ W, Hid (W = ((w1.setCell ⟨R, 1, none⟩ (.slice (some ⟨g, 0, none⟩) n size)).setCell ⟨R, 3, none⟩ (.int .i64 (wrap64 (wr + (m : Int))))).drewN nq) := ⟨_, rfl⟩
  have hringW : RingAt W.drew R size (some ⟨g, 0, none⟩) n size next wr' := by rw [HW.out, HWR.out]; exact (hring1.set1 _ _ _).set3 _
  have hkW : Kept S w W := by rw [HW.out]; exact ((hk1.setCell _ HSR.out _).setCell _ HSR.out _).drawn _
  have hownW : W.drew.ownsRow B 5 1 (.slice (some ⟨g, 0, none⟩) n size) n (ints xs) := by rw [HW.out]; exact ownsRow_setCell_other (ownsRow_setCell_other hown1' (hring1.other hown1') _) (hring1.other hown1') _
  have hpW : Row W.drew (some ⟨pb, po, none⟩) m ps := hp.kept hkW.drew (fun y hy => by simp only [Option.some.injEq] at hy; subst hy; exact HSp.out)
  rw [← HW.out]
  have hBW : B ≤ W.drew.heap.size := Nat.le_trans hB hkW.size
  have hfm : fill ≤ m := by have := HF.out; omega
  have hfs : n + fill ≤ size := by have := HF.out; omega
  have hfmc : fill ≤ mc := by omega
  have c1W := hringW.c1
  clear c0 c1 c3 f1 f3 hown1 hown1' hring1 hk1
  go_wp2
  go_region_law (refine step_append_ring rfl (.tmp 48) (.tmp 51) rfl B g n size xs rfl hownW ⟨pb, po, none⟩ fill mc (ps.take fill) rfl HXL.out (by rw [List.length_take, HPL.out]; omega) (row_take hpW hfm) (by omega) hBW R size next _ hringW ?_; intro g' cap' w5 HO5 HG5 hk5 c15 f15)
  obtain ⟨V, HV⟩ : ∃ V, Hid (V = w5.setCell ⟨R, 1, none⟩ (.slice (some ⟨g', 0, none⟩) (n + fill) cap')) := ⟨_, rfl⟩
  have hring5 : RingAt w5 R size (some ⟨g, 0, none⟩) n size next wr' := hringW.kept hk5 (fun e => (hringW.other hownW) (by simp [Value.ownBlock]; exact e.symm))
  have hringV : RingAt V R size (some ⟨g', 0, none⟩) (n + fill) cap' next wr' := by rw [HV.out]; exact hring5.set1 _ _ _
  have hownV : V.ownsRow B 5 1 (.slice (some ⟨g', 0, none⟩) (n + fill) cap') (n + fill) (ints (xs ++ ps.take fill)) := by rw [HV.out]; exact ownsRow_setCell_other HO5.out (hring5.other HO5.out) _
  have hkV : Kept S w V := by rw [HV.out]; exact ((hkW.drew).trans (hk5.mono (fun k hk => by subst hk; exact HSg.out))).setCell _ HSR.out _
  have hpV : Row V (some ⟨pb, po, none⟩) m ps := hp.kept hkV (fun y hy => by simp only [Option.some.injEq] at hy; subst hy; exact HSp.out)
  have HG : Hid (Plain.Good size next (Plain.rot size next xs ++ ps) (xs ++ ps.take fill) (n + fill) next) := by
    have hxl := HXL.out
    subst hxl
    exact Plain.filled size next fill xs ps hnx H0.out (by omega) (by rw [HPL.out]; omega)
  have HL : Hid ((xs ++ ps.take fill).length = n + fill) := show _ = _ by rw [List.length_append, List.length_take, HXL.out, HPL.out]; omega
  have HSL : Hid ((Plain.rot size next xs ++ ps).length = n + m) := show _ = _ by rw [List.length_append, Plain.length_rot, HXL.out, HPL.out]
  have HSg' : Hid (S g') := by
    rcases HG5.out with e | e
    · rw [e]; exact HSg.out
    · exact HSn.out _ (Nat.le_trans hkW.size e)
  rw [← HV.out]
  clear hringW hownW hpW c1W hk5 c15 f15 hring5 HO5 HV HW hkW hBW
  by_cases hc : fill = m
  · obtain rfl : m = fill := hc.symm
    clear hc
    go_wp2
    all_goals
      refine wp_loop_rounds 1 ?_
      rw [rounds_succ]
      go_wp2
      go_end0
      exact ⟨rfl, some ⟨g', 0, none⟩, cap', xs ++ ps.take m, next, by rw [HL.out]; exact hringV, by rw [HL.out]; exact hownV, hkV, by rw [HSL.out]; exact HG.out⟩
  · have HNS : Hid (n + fill = size) := show _ = _ by have := HF.out; omega
    have hfm' : fill < m := by omega
    clear hc hfm
    obtain ⟨g'', _, hgg0, hg'B, hcapN, hcapm, _⟩ := open_block hownV (by have := HNS.out; omega)
    simp only [Option.some.injEq, Addr.mk.injEq, and_true] at hgg0
    subst hgg0
    unfold maxLen at hcapm
    go_wp2
    go_loopw [1] (fun p wv => ∃ (t c : Nat) (x : Addr) (zs : List Int) (nx : Nat), fill ≤ t ∧ t ≤ m ∧ m - t ≤ c ∧ c ≤ 9223372036854775807 ∧ x.block = pb ∧ p = .slice (some x) (m - t) c ∧ Row wv (some x) (m - t) (ps.drop t) ∧
        RingAt wv R size (some ⟨g', 0, none⟩) (n + fill) cap' nx wr' ∧ wv.ownsRow B 5 1 (.slice (some ⟨g', 0, none⟩) (n + fill) cap') (n + fill) (ints zs) ∧ Kept S w wv ∧ Plain.Good size next (Plain.rot size next xs ++ ps) zs (n + t) nx)
      (fun p _ => lenOf p)
    case atStart => exact ⟨fill, mc - fill, ⟨pb, po + fill, none⟩, xs ++ ps.take fill, next, Nat.le_refl _, by omega, by omega, by omega, rfl, rfl, row_drop hpV (by omega), hringV, hownV, hkV, HG.out⟩
    case round =>
      obtain ⟨t, c, x, zs, nx, ht1, ht2, hc1, hc2, hxb, rfl, hrow, hr, ho, hk, hgood⟩ := hrel
      have HGd : Hid (Plain.Good size next (Plain.rot size next xs ++ ps) zs (n + t) nx) := hgood
      have HZL : Hid (zs.length = n + fill) := show _ = _ by have := hgood.len; have := HNS.out; omega
      clear hgood hringV hownV hkV hpV HG
      by_cases htm : t = m
      · have hz : ¬ (0 : Int) < ((m - t : Nat) : Int) := by omega
        have HGe : Hid (Plain.Good size next (Plain.rot size next xs ++ ps) zs (Plain.rot size next xs ++ ps).length nx) := by rw [HSL.out, ← htm]; exact HGd.out
        clear htm
        go_wp2
        go_end0
        exact ⟨rfl, _, cap', zs, nx, by rw [HZL.out]; exact hr, by rw [HZL.out]; exact ho, hk, HGe.out⟩
      · have hnxs : nx < n + fill := by have h1 := HGd.out.nx; have h2 := HNS.out; rw [h1, h2]; exact Nat.mod_lt _ hsz
        obtain ⟨k, HK⟩ : ∃ k, Hid (k = Nat.min (m - t) (n + fill - nx)) := ⟨_, rfl⟩
        have hk1 : k ≤ m - t := by rw [HK.out]; exact Nat.min_le_left _ _
        have hk2 : nx + k ≤ n + fill := by have : k ≤ n + fill - nx := by rw [HK.out]; exact Nat.min_le_right _ _
                                           omega
        have hk0 : 0 < k := by rw [HK.out]; exact Nat.lt_min.2 ⟨by omega, by omega⟩
        obtain ⟨nx', HNX⟩ : ∃ nx', Hid (nx' = (nx + k) % size) := ⟨_, rfl⟩
        have hrem : ((nx : Int) + (k : Int)).tmod (size : Int) = (nx' : Int) := by rw [HNX.out, Int.tmod_eq_emod_of_nonneg (by omega), Int.natCast_emod, Int.natCast_add]
        have hwrp : IntKind.i64.wrap ((nx : Int) + (k : Int)) = (nx : Int) + (k : Int) := by rw [IntKind.wrap_i64]; omega
        have hs0 : ¬ size = 0 := by omega
        rcases hrow with hrow | ⟨xb, xo, hx, hrow⟩
        · omega
        simp only [Option.some.injEq] at hx
        subst hx
        obtain rfl : xb = pb := hxb
        have HRow : Hid (Row wr (some ⟨xb, xo, none⟩) (m - t) (ps.drop t)) := .inr ⟨xb, xo, rfl, hrow⟩
        obtain ⟨g'', cur, hgg, _, _, _, hcur, hcl, hct⟩ := open_block ho (by omega)
        simp only [Option.some.injEq, Addr.mk.injEq, and_true] at hgg
        subst hgg
        have HCur : Hid (wr.drew.heap[g']? = some (.cells cur.toArray 5 (0, 0))) := hcur
        have HCL : Hid (cur.length = cap') := hcl
        have HCT : Hid (cur.take (n + fill) = ints zs) := hct
        have HDL : Hid (((ps.drop t).take k).length = k) := show _ = _ by rw [List.length_take, List.length_drop, HPL.out]; omega
        have HSrc : Hid (∀ j v, (ints ((ps.drop t).take k))[j]? = some v → wr.drew.cell? ((⟨xb, xo, none⟩ : Addr).add j) = some v) := news_of HDL.out (row_take HRow.out hk1)
        have c1 := hr.c1
        have c2 := hr.c2
        have hpos : (0 : Int) < ((m - t : Nat) : Int) := by omega
        have hnxle : (nx : Int) ≤ (n : Int) + (fill : Int) := by omega
        have hcne : ¬ cap' = nx := by omega
        clear hcur hcl hct hrow
        go_wp2
        go_region_law (refine step_copy_ring rfl (.tmp 69) (.tmp 70) rfl g' nx (n + fill - nx) (cap' - nx) ⟨xb, xo, none⟩ (m - t) c rfl rfl cur HCur.out (ints ((ps.drop t).take k)) k (by rw [length_ints]; exact HDL.out) HK.out HSrc.out (by rw [HCL.out]; omega) (one_ints _) ?_; intro w8 HG8 hk8)
        all_goals
          have hsn : ¬ R = g' := fun e => (hr.other ho) (by simp [Value.ownBlock]; exact e.symm)
          have hk8' : Kept (fun j => j = g') wr w8 := ⟨hk8.os, hk8.tape, hk8.output, hk8.size, hk8.block⟩
          have hr8 : RingAt w8.drew R size (some ⟨g', 0, none⟩) (n + fill) cap' nx wr' := hr.kept hk8'.drew hsn
          have HO8 : Hid (w8.ownsRow B 5 1 (.slice (some ⟨g', 0, none⟩) (n + fill) cap') (n + fill) (ints (Plain.over zs nx ((ps.drop t).take k)))) :=
            copied HCL.out HCT.out hcapN (by unfold maxLen; omega) (by rw [HDL.out]; omega) HZL.out hg'B HG8.out
          have c08 := hr8.c0
          have c28 := hr8.c2
          have f28 := hr8.free 2
          clear c1 c2 HG8 HSrc HCur HCL HCT
          have hrN : RingAt (w8.setCell ⟨R, 2, none⟩ (.int .i64 (nx' : Int))).drew R size (some ⟨g', 0, none⟩) (n + fill) cap' nx' wr' := hr8.set2 _
          have hoN : (w8.setCell ⟨R, 2, none⟩ (.int .i64 (nx' : Int))).drew.ownsRow B 5 1 (.slice (some ⟨g', 0, none⟩) (n + fill) cap') (n + fill) (ints (Plain.over zs nx ((ps.drop t).take k))) := ownsRow_setCell_other HO8.out (fun e => hsn (by simp [Value.ownBlock] at e; exact e.symm)) _
          have hkN : Kept S w (w8.setCell ⟨R, 2, none⟩ (.int .i64 (nx' : Int))).drew := ((hk.trans (hk8'.mono (fun j hj => by subst hj; exact HSg'.out))).setCell _ HSR.out _).drew
          have hpN : Row (w8.setCell ⟨R, 2, none⟩ (.int .i64 (nx' : Int))).drew (some ⟨xb, xo, none⟩) (m - t) (ps.drop t) :=
            HRow.out.kept (S := S) (((hk8'.mono (fun j hj => by subst hj; exact HSg'.out)).setCell _ HSR.out _).drew) (fun y hy => by simp only [Option.some.injEq] at hy; subst hy; exact HSp.out)
          have HGN : Hid (Plain.Good size next (Plain.rot size next xs ++ ps) (Plain.over zs nx ((ps.drop t).take k)) (n + (t + k)) nx') := by
            have hd : (Plain.rot size next xs ++ ps).drop (n + t) = ps.drop t := drop_stream _ _ _ _ (by rw [Plain.length_rot, HXL.out])
            rw [HNX.out, ← Nat.add_assoc, ← hd]
            exact Plain.step size next _ zs (n + t) nx k HGd.out (by rw [HZL.out, HNS.out]) (by rw [HSL.out]; omega) (by have := HNS.out; omega)
          have hpN' := row_drop hpN hk1
          rw [Nat.sub_sub, List.drop_drop] at hpN'
          clear hpN hr ho hk hk8 hk8' hr8 HO8 HRow HGd
          go_wp2
          go_region
        all_goals
          go_wp2
          refine ⟨?_, ?_⟩
          · by_cases hck : c = k
            · rw [if_pos hck]
              exact ⟨t + k, c - k, ⟨xb, xo, none⟩, _, nx', by omega, by omega, by omega, by omega, rfl, congrArg (fun l => Value.slice (some ⟨xb, xo, none⟩) l (c - k)) (Nat.sub_sub _ _ _), .inl (by omega), hrN, hoN, hkN, HGN.out⟩
            · rw [if_neg hck]
              exact ⟨t + k, c - k, ⟨xb, xo + k, none⟩, _, nx', by omega, by omega, by omega, by omega, rfl, congrArg (fun l => Value.slice (some ⟨xb, xo + k, none⟩) l (c - k)) (Nat.sub_sub _ _ _), hpN', hrN, hoN, hkN, HGN.out⟩
          · show m - t - k < m - t
            omega

end Go.Proofs.Qxb6601367a.Bytes
