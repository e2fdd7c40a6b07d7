/-
  No cell of these rows narrows 'for every input' (looked for: loops, veiled, ifaces, maps, wideKeys, modest, calm, conditions, laid).
  DERIVED. THE GIVEN ROWS OF THIS SEAT. 4 by the template 'for every input the law returns true; each argument reads behind the call as it read before'; 0 by the template 'total and deterministic' (their statements: Qxb6602225aTotals.lean).
  GIVEN WITH THE SEED: the statements are not yours to turn. If you find one false, say at which input.
  Laid BY PROGRAM, IN A SANDBOX (cutbox-rows.mjs): the forced cells as the released guide's own fill.sh prints them over the translation dd0205cea92d7f00… (all of the seat's roots in one cut). By AI agents, Wed Nov 11 2026. No macro, syntax, notation, axiom, sorry.
-/
import Derived.Test.Qxb6602225aChecked
import GoSem.Claim
import GoSem.ClaimJoined
import GoSem.ClaimMapViews
import Derived.JoinedTies
import Derived.KernelRfl
namespace Go.Proofs.Qxb6602225a
/- THE CELL 'sum', in the pinned program and in every row, IS THE sha256 OF THE DUMP (.gsa) THAT Qxb6602225aProg.lean LOADS. Nothing in Lean hashes anything: it is a label: what it is worth is what the hold of that sum in a sandbox is worth. -/
noncomputable def Try.pinned : Pinned := { name := "qxb6602225a", sum := "dd0205cea92d7f00d7e5b1c0b5fdcea6532e3ccb402835fe340e243993d16a79", checked := Try.checked }
namespace Rows
def none {H : Type} : Left H := { results := [], args := [] }

/-- 'zzlaws_quota_b1.FnAvailableWhole': WHATEVER THE INPUT: true; the input reads as it did. -/
def fnAvailableWholeSpec : ChangeSpec := { name := "fnAvailableWhole", fn := fun _ => fun
  | [d1, d2, d3] => { results := [.lit (.bool true)], args := [d1, d2, d3] }
  | _ => none }
def fnAvailableWholeRow : OpenClaim := { program := "qxb6602225a", sum := "dd0205cea92d7f00d7e5b1c0b5fdcea6532e3ccb402835fe340e243993d16a79", func := "example.com/apportion/apportion/zzlaws_quota_b1.FnAvailableWhole", spec := "fnAvailableWhole", apart := false }
def FnAvailableWholeSaid : Prop := fnAvailableWholeRow.holds Try.pinned (OpenSpec.ofChange fnAvailableWholeSpec)

/-- ITS FALSE NEIGHBOUR: 'it returns false'. Refute it at one input. -/
def fnAvailableWholeWrong : ChangeSpec := { name := "fnAvailableWhole", fn := fun _ => fun
  | [d1, d2, d3] => { results := [.lit (.bool false)], args := [d1, d2, d3] }
  | _ => none }
def FnAvailableWholeWrongFalsely : Prop := fnAvailableWholeRow.holds Try.pinned (OpenSpec.ofChange fnAvailableWholeWrong)

/-- 'zzlaws_quota_b1.FnAvailableBoundsAndFit': WHATEVER THE INPUT: true; the input reads as it did. -/
def fnAvailableBoundsAndFitSpec : ChangeSpec := { name := "fnAvailableBoundsAndFit", fn := fun _ => fun
  | [d1, d2, d3, d4] => { results := [.lit (.bool true)], args := [d1, d2, d3, d4] }
  | _ => none }
def fnAvailableBoundsAndFitRow : OpenClaim := { program := "qxb6602225a", sum := "dd0205cea92d7f00d7e5b1c0b5fdcea6532e3ccb402835fe340e243993d16a79", func := "example.com/apportion/apportion/zzlaws_quota_b1.FnAvailableBoundsAndFit", spec := "fnAvailableBoundsAndFit", apart := false }
def FnAvailableBoundsAndFitSaid : Prop := fnAvailableBoundsAndFitRow.holds Try.pinned (OpenSpec.ofChange fnAvailableBoundsAndFitSpec)

/-- ITS FALSE NEIGHBOUR: 'it returns false'. Refute it at one input. -/
def fnAvailableBoundsAndFitWrong : ChangeSpec := { name := "fnAvailableBoundsAndFit", fn := fun _ => fun
  | [d1, d2, d3, d4] => { results := [.lit (.bool false)], args := [d1, d2, d3, d4] }
  | _ => none }
def FnAvailableBoundsAndFitWrongFalsely : Prop := fnAvailableBoundsAndFitRow.holds Try.pinned (OpenSpec.ofChange fnAvailableBoundsAndFitWrong)

/-- 'zzlaws_quota_b1.FnReleaseIgnoresLimitAndReserved': WHATEVER THE INPUT: true; the input reads as it did. -/
def fnReleaseIgnoresLimitAndReservedSpec : ChangeSpec := { name := "fnReleaseIgnoresLimitAndReserved", fn := fun _ => fun
  | [d1, d2, d3, d4, d5, d6] => { results := [.lit (.bool true)], args := [d1, d2, d3, d4, d5, d6] }
  | _ => none }
def fnReleaseIgnoresLimitAndReservedRow : OpenClaim := { program := "qxb6602225a", sum := "dd0205cea92d7f00d7e5b1c0b5fdcea6532e3ccb402835fe340e243993d16a79", func := "example.com/apportion/apportion/zzlaws_quota_b1.FnReleaseIgnoresLimitAndReserved", spec := "fnReleaseIgnoresLimitAndReserved", apart := false }
def FnReleaseIgnoresLimitAndReservedSaid : Prop := fnReleaseIgnoresLimitAndReservedRow.holds Try.pinned (OpenSpec.ofChange fnReleaseIgnoresLimitAndReservedSpec)

/-- ITS FALSE NEIGHBOUR: 'it returns false'. Refute it at one input. -/
def fnReleaseIgnoresLimitAndReservedWrong : ChangeSpec := { name := "fnReleaseIgnoresLimitAndReserved", fn := fun _ => fun
  | [d1, d2, d3, d4, d5, d6] => { results := [.lit (.bool false)], args := [d1, d2, d3, d4, d5, d6] }
  | _ => none }
def FnReleaseIgnoresLimitAndReservedWrongFalsely : Prop := fnReleaseIgnoresLimitAndReservedRow.holds Try.pinned (OpenSpec.ofChange fnReleaseIgnoresLimitAndReservedWrong)

/-- 'zzlaws_quota_b1.FnReleaseGrantedRaisesAvailable': WHATEVER THE INPUT: true; the input reads as it did. -/
def fnReleaseGrantedRaisesAvailableSpec : ChangeSpec := { name := "fnReleaseGrantedRaisesAvailable", fn := fun _ => fun
  | [d1, d2, d3, d4] => { results := [.lit (.bool true)], args := [d1, d2, d3, d4] }
  | _ => none }
def fnReleaseGrantedRaisesAvailableRow : OpenClaim := { program := "qxb6602225a", sum := "dd0205cea92d7f00d7e5b1c0b5fdcea6532e3ccb402835fe340e243993d16a79", func := "example.com/apportion/apportion/zzlaws_quota_b1.FnReleaseGrantedRaisesAvailable", spec := "fnReleaseGrantedRaisesAvailable", apart := false }
def FnReleaseGrantedRaisesAvailableSaid : Prop := fnReleaseGrantedRaisesAvailableRow.holds Try.pinned (OpenSpec.ofChange fnReleaseGrantedRaisesAvailableSpec)

/-- ITS FALSE NEIGHBOUR: 'it returns false'. Refute it at one input. -/
def fnReleaseGrantedRaisesAvailableWrong : ChangeSpec := { name := "fnReleaseGrantedRaisesAvailable", fn := fun _ => fun
  | [d1, d2, d3, d4] => { results := [.lit (.bool false)], args := [d1, d2, d3, d4] }
  | _ => none }
def FnReleaseGrantedRaisesAvailableWrongFalsely : Prop := fnReleaseGrantedRaisesAvailableRow.holds Try.pinned (OpenSpec.ofChange fnReleaseGrantedRaisesAvailableWrong)

end Rows
end Go.Proofs.Qxb6602225a
