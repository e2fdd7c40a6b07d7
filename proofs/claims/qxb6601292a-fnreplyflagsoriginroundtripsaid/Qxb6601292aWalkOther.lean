/-
  The walk of FnReplyFlagsOriginRoundTrip (function 3), another origin.
-/
import Derived.Test.Qxb6601292aFlagsOther
import Derived.Test.Qxb6601292aBits
namespace Go.Proofs.Qxb6601292a.Bytes
open Go.RowKit

set_option maxHeartbeats 2000000 in
theorem walk_other (a0 : Option Addr) (len0 cap0 : Nat) (xs : List Int) (a1 a2 a3 a4 : Bool) (a6 : Option Addr) (len6 cap6 : Nat) (ps : List Int) (w : World)
    (hn0 : a0 = none → len0 = 0) (hl0 : len0 ≤ 9223372036854775807) (hx0 : xs.length = len0) (hr0 : Row w a0 len0 xs) (hn6 : a6 = none → len6 = 0) (hl6 : len6 ≤ 9223372036854775807) (hx6 : ps.length = len6) (hr6 : Row w a6 len6 ps) :
    Calls Try.prog 3 #[.slice a0 len0 cap0, .bool a1, .bool a2, .bool a3, .bool a4, .int .u8 2, .slice a6 len6 cap6] w fun e w' => e = .returned (.bool true) ∧ Below w.heap.size w w' := by
  have HX0 : Hid (xs.length = len0) := hx0
  have HX6 : Hid (ps.length = len6) := hx6
  have HN0 : Hid (a0 = none → len0 = 0) := hn0
  have HN6 : Hid (a6 = none → len6 = 0) := hn6
  clear hx0 hx6 hn0 hn6
  go_enter Try.func3, Try.ntmps3
  go_wp2_with fail
  refine (bytes4_any a0 len0 cap0 a1 a2 a3 a4 2 a6 len6 cap6 _ hl0 hl6).mono ?_
  rintro e w' ⟨⟨b, rfl⟩, rfl⟩
  cases b
  · go_wp2_with fail
    go_ret
    exact ⟨rfl, Below.refl _ _⟩
  by_cases hp : (255 : Int) < (len6 : Int)
  · go_wp2_with fail
    go_ret
    exact ⟨rfl, Below.refl _ _⟩
  by_cases hb : (1048576 : Int) - (len6 : Int) < (len0 : Int)
  · go_wp2_with fail
    go_ret
    exact ⟨rfl, Below.refl _ _⟩
  have hs0 : len0 ≤ 1048576 := by omega
  have hs6 : len6 ≤ 255 := by omega
  go_wp2_with fail
  refine (clone_any a0 len0 cap0 xs w HN0.out hs0 HX0.out hr0).mono ?_
  rintro e w1 ⟨ao, rfl, hnil1, hown1, hb1⟩
  have HA1 : Hid (ao = none → len0 = 0) := hnil1
  have hr6' : Row w1 a6 len6 ps := hr6.later hb1
  clear hnil1
  go_wp2_with fail
  refine (clone_any a6 len6 cap6 ps w1 HN6.out (by omega) HX6.out hr6').mono ?_
  rintro e w2 ⟨ap, rfl, hnil2, hown2, hb2⟩
  have HA2 : Hid (ap = none → len6 = 0) := hnil2
  have hr0' : Row w2 ao len0 xs := (row_of_owns hown1).later hb2
  clear hnil2
  go_wp2_with fail
  refine (clone_any ao len0 len0 xs w2 HA1.out hs0 HX0.out hr0').mono ?_
  rintro e w3 ⟨aq, rfl, hnil3, hown3, hb3⟩
  clear hnil3
  have hrq : Row w3 aq len0 xs := row_of_owns hown3
  have hrp : Row w3 ap len6 ps := (row_of_owns hown2).later hb3
  have HQB : Hid (∀ x, aq = some x → x.block < w3.heap.size) := block_lt hown3
  have HPB : Hid (∀ x, ap = some x → x.block < w3.heap.size) := fun x hx => Nat.lt_of_lt_of_le (block_lt hown2 x hx) hb3.size
  have hr0'' : Row w3 ao len0 xs := hr0'.later hb3
  have hbw3 : Below w.heap.size w w3 := (hb1.trans (hb2.mono hb1.size)).trans (hb3.mono (Nat.le_trans hb1.size hb2.size))
  have hws : w.heap.size ≤ w3.heap.size := hbw3.size
  clear hown1 hown2 hown3 hb1 hb2 hb3 hr0 hr6 hr6' hr0'
  go_wp2_with fail
  refine (flags_other ao len0 xs a1 a2 a3 a4 (xs ++ [flagsOf a1 a2 a3 a4 2]) (len0 + 1) w3 hr0'' HX0.out HA1.out (by omega) rfl rfl).mono ?_
  rintro e w4 ⟨a4', cap4, rfl, hown4, hb4⟩
  have hB4 : w3.heap.size ≤ w4.heap.size := hb4.size
  have hrp4 : Row w4 ap len6 ps := row_below hrp hb4 HPB.out
  go_wp2_with fail
  refine (origin_yes w3.heap.size a4' (len0 + 1) cap4 (xs ++ [flagsOf a1 a2 a3 a4 2]) ap len6 len6 ps (xs ++ [flagsOf a1 a2 a3 a4 2] ++ [(len6 : Int)] ++ ps) (len0 + 1 + 1 + len6) w4 hB4 hown4 (by omega) hs6 HX6.out (fun h => ⟨HA2.out h, HA2.out h⟩) hrp4 HPB.out rfl rfl).mono ?_
  rintro e w5 ⟨a5', cap5, rfl, hown5, hb5⟩
  have hrq5 : Row w5 aq len0 xs := row_below (row_below hrq hb4 HQB.out) hb5 HQB.out
  have hrp5 : Row w5 ap len6 ps := row_below hrp4 hb5 HPB.out
  have hbw : Below w.heap.size w w5 := (hbw3.trans (hb4.mono hws)).trans (hb5.mono hws)
  clear hown4 hb4 hb5 hrq hrp hrp4 hbw3 hr0''
  obtain ⟨g, rfl, hcap, hcapm, hcell⟩ := open_owns hown5 (by omega)
  obtain ⟨F, hF⟩ : ∃ F, F = flagsOf a1 a2 a3 a4 2 := ⟨_, rfl⟩
  have HS' : Seen F a1 a2 a3 a4 false true := by rw [hF]; exact seen_other a1 a2 a3 a4
  rw [← hF] at hcell
  have hcF : w5.cell? ⟨g, len0, none⟩ = some (.int .u8 F) := by rw [hcell len0 (by omega), at_flag HX0.out]
  have hcM : w5.cell? ⟨g, len0 + 1, none⟩ = some (.int .u8 (len6 : Int)) := by rw [hcell (len0 + 1) (by omega), at_len HX0.out]
  have hro : Row w5 (some ⟨g, 0, none⟩) len0 xs := .inr ⟨g, 0, rfl, fun i hi => by rw [Nat.zero_add, hcell i (by omega), at_head HX0.out hi]⟩
  have hrt : Row w5 (some ⟨g, len0 + 1 + 1, none⟩) len6 ps := .inr ⟨g, len0 + 1 + 1, rfl, fun i hi => by rw [hcell (len0 + 1 + 1 + i) (by omega), at_tail HX0.out]⟩
  clear hcell hown5 hF
  obtain ⟨f1, f2, f4, f8, f16, f32⟩ := HS'
  have hlI : (len0 : Int) < (len0 : Int) + 1 + 1 + (len6 : Int) := by omega
  go_wp2_with fail
  refine (same_true _ _ len0 cap5 len0 xs w5 hl0 hro hrq5).mono ?_
  rintro e w6 ⟨rfl, k, rfl⟩
  clear hro hrq5
  go_wp2_with fail
  all_goals
    rw [show len0 + 1 + 1 + len6 - (len0 + 1) - 1 = len6 from by omega]
    refine (same_true _ _ len6 _ len6 ps _ hl6 ?_ ?_).mono ?_
    · first | exact hrt.drew _ | exact .inl (by omega)
    · exact hrp5.drew _
    rintro e w7 ⟨rfl, k', rfl⟩
    go_wp2_with fail
    go_ret
    exact ⟨rfl, below_drawn hbw _⟩

end Go.Proofs.Qxb6601292a.Bytes
