/-
  The walk of FnRingWriteKeepsTheLastSizeBytes (function 7) behind its guards: p is not nil; the ring is full.
-/
import Derived.Test.Qxb6601367aMainLaws
namespace Go.Proofs.Qxb6601367a.Bytes
open Go.RowKit

set_option maxRecDepth 100000 in
set_option maxHeartbeats 4000000 in
theorem core_some_full (sz : Nat) (a1 : Option Addr) (n cap1 : Nat) (xs : List Int) (nx : Nat) (a3 : Int) (a4 : Option Addr) (m cap4 : Nat) (ps : List Int) (w : World)
    (hn1 : a1 = none → n = 0) (hx1 : xs.length = n) (hr1 : Row w a1 n xs) (hx4 : ps.length = m) (hr4 : Row w a4 m ps) (hc4 : m ≤ cap4) (hc4' : cap4 ≤ 9223372036854775807)
    (b3 : -9223372036854775808 ≤ a3) (c3 : a3 ≤ 9223372036854775807) (hsum : n + m ≤ 1048576) (hsz : 1 ≤ sz) (hsz2 : sz ≤ 65536) (hn : n ≤ sz) (hnx : nx < sz) (hge : sz ≤ n) (x4 : Addr) (h4 : a4 = some x4) :
    Calls Try.prog 7 #[.int .i64 (sz : Int), .slice a1 n cap1, .int .i64 (nx : Int), .int .i64 a3, .slice a4 m cap4] w fun e w' => e = .returned (.bool true) ∧ Below w.heap.size w w' := by
  have q : ∀ (w : World) (a : Option Addr) (n c : Nat), (binOp .eql 23 (.slice a n c) (.slice none 0 0)).run Try.prog w = .ok (.bool a.isNone) w := fun w a n c => Lib.run_eql_slice_nil w 23 5 a n c 0 0 Try.underlying23
  have q' : ∀ (w : World) (a : Option Addr) (n c : Nat), (binOp .neq 23 (.slice a n c) (.slice none 0 0)).run Try.prog w = .ok (.bool (!a.isNone)) w := fun w a n c => run_neq_slice_nil_any w 23 5 a n c 0 0 Try.underlying23
  obtain ⟨i0, hi, hz0, hz1, hz2⟩ := info_parts info5
  have HX1 : Hid (xs.length = n) := hx1
  have HX4 : Hid (ps.length = m) := hx4
  have HN1 : Hid (a1 = none → n = 0) := hn1
  have H0 : Hid (n < sz → nx = 0) := fun h => absurd h (by omega)
  clear hx1 hx4 hn1
  have g1 : ¬ (1048576 : Int) < (n : Int) := by omega
  have g2 : ¬ (1048576 : Int) < (m : Int) := by omega
  have g3 : ¬ (1048576 : Int) < (n : Int) + (m : Int) := by omega
  have g4 : ¬ (sz : Int) < 1 := by omega
  have g5 : ¬ (65536 : Int) < (sz : Int) := by omega
  have g6 : ¬ (sz : Int) < (n : Int) := by omega
  have g7 : ¬ (sz : Int) ≤ (nx : Int) := by omega
  have g8 : ¬ (n : Int) < (sz : Int) := by omega
  subst h4
  go_enter Try.func7, Try.ntmps7
  go_wp2_with fail
  refine (bytes21_any _ a1 n cap1 _ a3 _ m cap4 _ (by omega) (by omega)).mono ?_
  rintro e w' ⟨⟨b, rfl⟩, rfl⟩
  cases b
  · go_wp2_with fail
    go_ret
    exact ⟨rfl, Below.refl _ _⟩
  go_wp2_with (at_make; refine wpList_make_full _ rfl _ _ 23 rfl w.heap.size 5 i0 (.int .u8 0) 1 Try.underlying23 hi hz0 hz1 .i64 .i64 _ _ m rfl rfl rfl rfl ?b2 ?b3 ?b4 ?_)
  case b2 => rw [hz2]; omega
  case b3 => unfold maxLen; omega
  case b4 => exact Nat.le_refl _
  intro w1 hown hgrow
  obtain ⟨cur, HG, HC⟩ : ∃ cur : List Value, Hid (w1.heap[w.heap.size]? = some (.cells cur.toArray 5 (0, 0))) ∧ Hid (cur.length = m) :=
    ⟨_, block_of_owns hown, show _ = _ by have := hown.1; simpa using this⟩
  have hb1 : Below w.heap.size w w1 := (Below.refl _ _).grown hgrow (Nat.le_refl _) (by simp)
  have hszi : (Try.prog.info? 5).map (·.size) = some 1 := by rw [hi]; simp [hz1]
  have hrow1 : Row w1 (some x4) m ps := hr4.later hb1
  clear hown hgrow
  go_wp2_with (refine wpList_copy_splice rfl (.tmp 76) (.tmp 77) 23 23 rfl 5 Try.underlying23 hszi _ _ _ _ _ _ rfl rfl w.heap.size 0 cur 5 HG.out (ints ps) ?n ?pos ?fit ?one w.heap.size w hb1 (Nat.le_refl _) ?_)
  case n => rw [length_ints, HX4.out]; exact (Nat.min_self _).symm
  case pos => exact fun _ j v hv => news_of HX4.out hrow1 j v hv
  case fit => rw [length_ints, HX4.out, HC.out]; omega
  case one => exact one_ints ps
  intro wp HG2 hbp
  have hg := HG2.out
  rw [splice_all (by rw [length_ints, HX4.out, HC.out])] at hg
  obtain ⟨ap, HAP⟩ : ∃ ap : Option Addr, Hid (ap = some ⟨w.heap.size, 0, none⟩) := ⟨_, rfl⟩
  have hlp : w.heap.size < wp.heap.size := lt_of_block hg
  have hrp : Row wp ap m ps := by
    rw [HAP.out]
    exact row_of_owns (owns_of_block (base := 0) hg (Nat.zero_le _) (by rw [length_ints]; exact HX4.out) (by unfold maxLen; omega))
  have hr1' : Row wp a1 n xs := hr1.later hbp
  obtain ⟨mc, HMC⟩ : ∃ mc, Hid (mc = m) := ⟨_, rfl⟩
  have HPn : Hid (ap = none → m = 0 ∧ mc = 0) := fun h => by rw [HAP.out] at h; simp at h
  have HPB : Hid (0 < m → ∀ x, ap = some x → x.block < wp.heap.size ∧ w.heap.size ≤ x.block) := fun _ x hx => by rw [HAP.out] at hx; simp only [Option.some.injEq] at hx; subst hx; exact ⟨hlp, Nat.le_refl _⟩
  have hmc : m ≤ mc := by rw [HMC.out]; exact Nat.le_refl _
  have hmc' : mc ≤ 9223372036854775807 := by rw [HMC.out]; omega
  have hwp : w.heap.size ≤ wp.heap.size := hbp.size
  clear hg HG2 HG HC hb1 hrow1 hszi hlp hr4 hc4 hc4'
  go_wp2_with fail
  rw [← HAP.out]
  rw [slice_cap ap m mc HMC.out]
  refine (clone_any a1 n cap1 xs wp HN1.out (by omega) HX1.out hr1').mono ?_
  rintro e wc ⟨ao, rfl, haoi, hownb, hbc⟩
  clear haoi
  go_wp2_with (at_make; refine wpList_make_own _ rfl _ _ 23 rfl wc.heap.size 5 i0 (.int .u8 0) 1 Try.underlying23 hi hz0 hz1 .i64 .i64 _ (n + m) rfl rfl ?hC ?d2 ?d3 ?d4 ?_)
  case hC => omega
  case d2 => rw [hz2]; omega
  case d3 => unfold maxLen; omega
  case d4 => exact Nat.le_refl _
  intro ws hs0 hgs
  have hbs : Below wc.heap.size wc ws := (Below.refl _ _).grown hgs (Nat.le_refl _) (by simp)
  have HS0 : Hid (ws.ownsRow wc.heap.size 5 1 (.slice (some ⟨wc.heap.size, 0, none⟩) 0 (n + m)) 0 []) := hs0
  have hrpc : Row wc ap m ps := hrp.later hbc
  have hrb : Row wc ao n xs := row_of_owns hownb
  clear hs0 hgs hrp hr1 hr1'
  go_wp2
  go_loopw [13, 14] (fun s k wv => ∃ j : Nat, j ≤ n ∧ k = .int .i64 j ∧ s = .slice (some ⟨wc.heap.size, 0, none⟩) j (n + m) ∧ wv.ownsRow wc.heap.size 5 1 (.slice (some ⟨wc.heap.size, 0, none⟩) j (n + m)) j (ints ((Plain.rot sz nx xs).take j)) ∧ Below wc.heap.size wc wv)
    (fun _ k _ => n - (intOf k).toNat)
  case atStart => exact ⟨0, Nat.zero_le _, rfl, rfl, HS0.out, hbs⟩
  case round =>
    obtain ⟨j, hj, rfl, rfl, hos, hbw⟩ := hrel
    clear HS0 hbs
    by_cases hlt : j < n
    · rcases hrb with h00 | ⟨gb, go, hao, hcb⟩
      · omega
      subst hao
      obtain ⟨ix, HIX⟩ : ∃ ix, Hid (ix = (nx + j) % sz) := ⟨_, rfl⟩
      have hix : ix < n := by rw [HIX.out]; exact place_lt hsz hn H0.out hlt
      have hr1 := rem_emod nx j sz ix HIX.out
      have hr2 := rem_tmod nx j sz ix HIX.out
      have hgb : gb < wc.heap.size := World.block_lt_of_cell? _ _ (hcb ix hix)
      have hcx := below_cell hbw hgb (hcb ix hix)
      have HT : Hid ((Plain.rot sz nx xs).take (j + 1) = (Plain.rot sz nx xs).take j ++ [xs.getD ix 0]) := by
        rw [HIX.out]; exact Plain.take_rot sz nx xs j (by rw [HX1.out]; exact hlt)
      have hixI : (ix : Int) < (n : Int) := by omega
      clear hcb
      generalize xs.getD ix 0 = v at hcx HT
      go_wp2_with (at_builtin; go_must (refine wpList_append_fits _ rfl (.tmp 96) (.tmp 105) 23 rfl wc.heap.size 5 i0 1 Try.underlying23 hi hz1 wc.heap.size j (n + m) (ints ((Plain.rot sz nx xs).take j)) rfl (hos.alloc _) ⟨wr.heap.size, 0, none⟩ 1 1 [Value.int .u8 v] rfl rfl (cell_one_new _ _ _) (one_one _ _) (by omega) ?_; intro w' hos' hgr'))
      have HO : Hid (w'.ownsRow wc.heap.size 5 1 (.slice (some ⟨wc.heap.size, 0, none⟩) (j + 1) (n + m)) (j + 1) (ints ((Plain.rot sz nx xs).take (j + 1)))) := by rw [HT.out, ← ints_app]; exact hos'
      have hbw' : Below wc.heap.size wc w' := (hbw.alloc hbw.size _).grown hgr' (by simp; have := hbw.size; omega) (by simp)
      clear hos' hgr' hos hbw
      go_wp2
      go_roundw
      case rel => first | exact ⟨j + 1, by omega, by go_num, rfl, HO.out, hbw'⟩ | ((repeat apply Exists.intro); exact ⟨⟨j + 1, by omega, by go_num, rfl, HO.out, hbw'⟩, rfl⟩)
      case measure => simp [intOf]; omega
    · obtain rfl : n = j := by omega
      have HRl : Hid ((Plain.rot sz nx xs).length = n) := show _ = _ by rw [Plain.length_rot]; exact HX1.out
      have hos1 : wr.ownsRow wc.heap.size 5 1 (.slice (some ⟨wc.heap.size, 0, none⟩) n (n + m)) n (ints (Plain.rot sz nx xs)) := by
        have h := hos
        rw [List.take_of_length_le (by rw [HRl.out]; omega)] at h
        exact h
      have hrpv : Row wr ap m ps := hrpc.later hbw
      have hob : wr.ownsRow wp.heap.size 5 1 (.slice ao n n) n (ints xs) := owns_later hownb hbw
      clear hos
      go_wp2_with (at_builtin; go_must (refine wpList_append_fits_any _ rfl (.tmp 107) (.tmp 108) 23 rfl wc.heap.size 5 i0 1 Try.underlying23 hi hz1 wc.heap.size n (n + m) (ints (Plain.rot sz nx xs)) rfl hos1 ap m mc (ints ps) rfl (by rw [length_ints, HX4.out]; omega) HPn.out (news_any HX4.out hrpv) (one_ints ps) (by omega) ?_; intro w6 hos6 hgr6))
      have hs6 : w6.ownsRow wc.heap.size 5 1 (.slice (some ⟨wc.heap.size, 0, none⟩) (n + m) (n + m)) (n + m) (ints (Plain.rot sz nx xs ++ ps)) := by rw [← ints_app]; exact hos6
      have hb6 : Below wc.heap.size wc w6 := hbw.grown hgr6 hbw.size (by simp)
      have hrp6 : Row w6 ap m ps := hrpc.later hb6
      have hob6 : w6.ownsRow wp.heap.size 5 1 (.slice ao n n) n (ints xs) := owns_later hownb hb6
      clear hos6 hgr6 hos1 hrpv hob hbw
      go_wp2_with fail
      refine (newring _ ao n n _ a3 w6).mono ?_
      rintro e w7 ⟨rfl, hw7⟩
      have hring7 : RingAt w7 w6.heap.size sz ao n n nx a3 := by rw [← hw7]; exact heap_alloc_new _ _
      have hb67 : Below w6.heap.size w6 w7 := by rw [← hw7]; exact (Below.refl _ _).alloc (Nat.le_refl _) _
      have hsz7 : w6.heap.size < w7.heap.size := hring7.lt
      have hs7 := owns_later hs6 hb67
      have hob7 := owns_later hob6 hb67
      have hrp7 : Row w7 ap m ps := hrp6.later hb67
      have hgsl : wc.heap.size < w6.heap.size := (hs6.lt wc.heap.size rfl).2
      have HBL : Hid (∀ x : Addr, ao = some x → wp.heap.size ≤ x.block ∧ x.block < wc.heap.size) := fun x hx => ⟨(hownb.lt x.block (by rw [hx]; rfl)).1, (hownb.lt x.block (by rw [hx]; rfl)).2⟩
      have hbw7 : Below w.heap.size w w7 := ((hbp.trans (hbc.mono hwp)).trans (hb6.mono (Nat.le_trans hwp hbc.size))).trans (hb67.mono (Nat.le_trans hwp (Nat.le_trans hbc.size hb6.size)))
      clear hw7 hs6 hob6 hrp6 hb6 hb67 hrpc hrb hownb
      go_wp2_with fail
      refine (zzwrite_any w6.heap.size wp.heap.size sz nx n m mc a3 ao ap xs ps w7 hring7 hob7 (by have := hbc.size; omega) hrp7 HX4.out HX1.out (by omega) hmc hmc' hsz hsz2 hn hnx H0.out b3 c3 ?_).mono ?_
      · exact not_turned_p HPB.out HBL.out hgsl hsz7 hbc.size
      rintro e w8 ⟨rfl, aoR, capR, L, zs, nxR, wrR, hring8, hown8, hk8, hzl, hgood, hwr, hnil⟩
      have HZL : Hid (zs.length = L) := hzl
      have HGd : Hid (Plain.Good sz nx (Plain.rot sz nx xs ++ ps) zs (n + m) nxR) := by
        have e : (Plain.rot sz nx xs ++ ps).length = n + m := by rw [List.length_append, HRl.out, HX4.out]
        rw [e] at hgood
        exact hgood
      have HNil : Hid (m = 0 → aoR = ao) := hnil
      have hs8 := owns_kept hs7 hk8 (not_turned_s HBL.out hgsl hsz7)
      have hwpc : wp.heap.size ≤ wc.heap.size := hbc.size
      have hbw8 : Below w.heap.size w w8 := hbw7.trans (hk8.below hbw7.size (turned_ge HBL.out hwp (by omega) (by omega)))
      clear hzl hgood hnil hring7 hob7 hrp7 hs7 hk8 hbw7
      go_wp2_with fail
      refine (ringbuf _ _ aoR L capR _ wrR w8 hring8).mono ?_
      rintro e w9 ⟨rfl, rfl⟩
      go_wp2_with fail
      refine (ringnext _ _ aoR L capR _ wrR w8 hring8).mono ?_
      rintro e w9 ⟨rfl, rfl⟩
      go_wp2_with fail
      refine (ringwritten _ _ aoR L capR _ wrR w8 hring8).mono ?_
      rintro e w9 ⟨rfl, rfl⟩
      by_cases hm : m = 0
      · have hmz : ((m : Int) == 0) = true := by rw [hm]; rfl
        obtain rfl : ao = aoR := (HNil.out hm).symm
        have HM : Hid (m = 0) := hm
        have hwr' : (wrR != a3 + (m : Int)) = false := by
          have e : wrap64 (a3 + (m : Int)) = a3 + (m : Int) := by unfold wrap64; omega
          rw [e] at hwr
          exact hwr
        have hks : ¬ (sz : Int) < (n : Int) + (m : Int) := by omega
        have t4 : ((L : Int) != (n : Int) + (m : Int)) = false := by have h1 := HGd.out.len; have h2 := HZL.out; rw [bne_eq_false_iff_eq]; omega
        have t5 := next_in (nx := nx) (nxR := nxR) (L := L) (sz := sz) (n := n) (m := m) (by omega) (by rw [← HZL.out]; exact HGd.out.len) (by rw [← HZL.out]; exact HGd.out.nx)
        clear hm
        go_wp2_with fail
        go_loopw [20] (fun k wv => ∃ j : Nat, 0 ≤ j ∧ j ≤ n + m ∧ k = .int .i64 j ∧ ∃ d, wv = w8.drewN d) (fun k _ => n + m - (intOf k).toNat)
        case atStart => exact ⟨0, Nat.le_refl _, by omega, rfl, 0, rfl⟩
        case round =>
          obtain ⟨j, hj1, hj2, rfl, d, rfl⟩ := hrel
          by_cases hlt : j < n + m
          · obtain ⟨ix, HIX⟩ : ∃ ix, Hid (ix = (nx + j) % sz) := ⟨_, rfl⟩
            have HLm : Hid (L = min (n + m) sz) := show _ = _ by rw [← HZL.out]; exact HGd.out.len
            have hix : ix < L := by rw [HIX.out]; exact place_lt' hsz H0.out HLm.out hlt
            rcases row_of_owns hown8 with h00 | ⟨gR, goR, hao, hcR⟩
            · omega
            subst hao
            rcases row_of_owns hs8 with h00 | ⟨gS, goS, haS, hcS⟩
            · omega
            simp only [Option.some.injEq, Addr.mk.injEq, and_true] at haS
            obtain ⟨rfl, rfl⟩ := haS
            have k1 := hcR ix hix
            have k2 := hcS j hlt
            rw [Nat.zero_add] at k2
            have hv : zs.getD ix 0 = (Plain.rot sz nx xs ++ ps).getD j 0 := by
              rw [HIX.out]
              exact HGd.out.at_ j (by have h1 := HLm.out; have h2 := HZL.out; omega) hlt
            rw [hv] at k1
            generalize (Plain.rot sz nx xs ++ ps).getD j 0 = v at k1 k2
            have r1 := rem_emod nx j sz ix HIX.out
            have r2 := rem_tmod nx j sz ix HIX.out
            have r3 : IntKind.i64.wrap ((nx : Int) + (j : Int)) = (nx : Int) + (j : Int) := by rw [IntKind.wrap_i64]; omega
            have hs0 : ¬ sz = 0 := by omega
            have i1 : (ix : Int) < (L : Int) := by omega
            have i2 : (j : Int) < (n : Int) + (m : Int) := by omega
            clear hv hcR hcS hown8 hs8 hring8
            go_wp2
            go_quiet (fail)
            go_wp2
            go_roundw
            case rel => exact ⟨j + 1, by omega, by omega, by go_num, _, rfl⟩
            case measure => simp [intOf]; omega
          · go_wp2
            go_ret
            exact ⟨rfl, below_drawn hbw8 _⟩
      · have hmz : ((m : Int) == 0) = false := beq_eq_false_iff_ne.2 (by omega)
        clear b3 c3
        by_cases hks : (sz : Int) < (n : Int) + (m : Int)
        · have t4 : ((L : Int) != (sz : Int)) = false := by have h1 := HGd.out.len; have h2 := HZL.out; rw [bne_eq_false_iff_eq]; omega
          have t5 := next_over (nx := nx) (nxR := nxR) (L := L) (sz := sz) (n := n) (m := m) (by omega) (by rw [← HZL.out]; exact HGd.out.len) (by rw [← HZL.out]; exact HGd.out.nx)
          go_wp2_with fail
          go_loopw [20] (fun k wv => ∃ j : Nat, n + m - sz ≤ j ∧ j ≤ n + m ∧ k = .int .i64 j ∧ ∃ d, wv = w8.drewN d) (fun k _ => n + m - (intOf k).toNat)
          case atStart => exact ⟨n + m - sz, Nat.le_refl _, by omega, congrArg (Value.int .i64) (by omega), 0, rfl⟩
          case round =>
            obtain ⟨j, hj1, hj2, rfl, d, rfl⟩ := hrel
            by_cases hlt : j < n + m
            · obtain ⟨ix, HIX⟩ : ∃ ix, Hid (ix = (nx + j) % sz) := ⟨_, rfl⟩
              have HLm : Hid (L = min (n + m) sz) := show _ = _ by rw [← HZL.out]; exact HGd.out.len
              have hix : ix < L := by rw [HIX.out]; exact place_lt' hsz H0.out HLm.out hlt
              rcases row_of_owns hown8 with h00 | ⟨gR, goR, hao, hcR⟩
              · omega
              subst hao
              rcases row_of_owns hs8 with h00 | ⟨gS, goS, haS, hcS⟩
              · omega
              simp only [Option.some.injEq, Addr.mk.injEq, and_true] at haS
              obtain ⟨rfl, rfl⟩ := haS
              have k1 := hcR ix hix
              have k2 := hcS j hlt
              rw [Nat.zero_add] at k2
              have hv : zs.getD ix 0 = (Plain.rot sz nx xs ++ ps).getD j 0 := by
                rw [HIX.out]
                exact HGd.out.at_ j (by have h1 := HLm.out; have h2 := HZL.out; omega) hlt
              rw [hv] at k1
              generalize (Plain.rot sz nx xs ++ ps).getD j 0 = v at k1 k2
              have r1 := rem_emod nx j sz ix HIX.out
              have r2 := rem_tmod nx j sz ix HIX.out
              have r3 : IntKind.i64.wrap ((nx : Int) + (j : Int)) = (nx : Int) + (j : Int) := by rw [IntKind.wrap_i64]; omega
              have hs0 : ¬ sz = 0 := by omega
              have i1 : (ix : Int) < (L : Int) := by omega
              have i2 : (j : Int) < (n : Int) + (m : Int) := by omega
              clear hv hcR hcS hown8 hs8 hring8
              go_wp2
              go_quiet (fail)
              go_wp2
              go_roundw
              case rel => exact ⟨j + 1, by omega, by omega, by go_num, _, rfl⟩
              case measure => simp [intOf]; omega
            · go_wp2
              go_ret
              exact ⟨rfl, below_drawn hbw8 _⟩
        · omega

end Go.Proofs.Qxb6601367a.Bytes
