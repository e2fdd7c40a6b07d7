/-
  No cell of these rows narrows 'for every input' (looked for: loops, veiled, ifaces, maps, wideKeys, modest, calm, conditions, laid).
  DERIVED. THE GIVEN ROWS OF THIS SEAT. 1 by the template 'for every input the law returns true; each argument reads behind the call as it read before'; 0 by the template 'total and deterministic' (their statements: Qxb6601292aTotals.lean).
  GIVEN WITH THE SEED: the statements are not yours to turn. If you find one false, say at which input.
  Laid BY PROGRAM, IN A SANDBOX (cutbox-rows.mjs): the forced cells as the released guide's own fill.sh prints them over the translation 67d24564a2df1fea… (all of the seat's roots in one cut). By AI agents, Wed Nov 11 2026. No macro, syntax, notation, axiom, sorry.
-/
import Derived.Test.Qxb6601292aChecked
import GoSem.Claim
import GoSem.ClaimJoined
import GoSem.ClaimMapViews
import Derived.JoinedTies
import Derived.KernelRfl
namespace Go.Proofs.Qxb6601292a
/- THE CELL 'sum', in the pinned program and in every row, IS THE sha256 OF THE DUMP (.gsa) THAT Qxb6601292aProg.lean LOADS. Nothing in Lean hashes anything: it is a label: what it is worth is what the hold of that sum in a sandbox is worth. -/
noncomputable def Try.pinned : Pinned := { name := "qxb6601292a", sum := "67d24564a2df1feaf9c1142911497db2b6d8eba557ac0a84e50faad6b4ff3f0a", checked := Try.checked }
namespace Rows
def none {H : Type} : Left H := { results := [], args := [] }

/-- 'zzlaws_internal_wire_b1.FnReplyFlagsOriginRoundTrip': WHATEVER THE INPUT: true; the input reads as it did. -/
def fnReplyFlagsOriginRoundTripSpec : ChangeSpec := { name := "fnReplyFlagsOriginRoundTrip", fn := fun _ => fun
  | [d1, d2, d3, d4, d5, d6, d7] => { results := [.lit (.bool true)], args := [d1, d2, d3, d4, d5, d6, d7] }
  | _ => none }
def fnReplyFlagsOriginRoundTripRow : OpenClaim := { program := "qxb6601292a", sum := "67d24564a2df1feaf9c1142911497db2b6d8eba557ac0a84e50faad6b4ff3f0a", func := "example.com/redoubt/redoubt/zzlaws_internal_wire_b1.FnReplyFlagsOriginRoundTrip", spec := "fnReplyFlagsOriginRoundTrip", apart := false }
def FnReplyFlagsOriginRoundTripSaid : Prop := fnReplyFlagsOriginRoundTripRow.holds Try.pinned (OpenSpec.ofChange fnReplyFlagsOriginRoundTripSpec)

/-- ITS FALSE NEIGHBOUR: 'it returns false'. Refute it at one input. -/
def fnReplyFlagsOriginRoundTripWrong : ChangeSpec := { name := "fnReplyFlagsOriginRoundTrip", fn := fun _ => fun
  | [d1, d2, d3, d4, d5, d6, d7] => { results := [.lit (.bool false)], args := [d1, d2, d3, d4, d5, d6, d7] }
  | _ => none }
def FnReplyFlagsOriginRoundTripWrongFalsely : Prop := fnReplyFlagsOriginRoundTripRow.holds Try.pinned (OpenSpec.ofChange fnReplyFlagsOriginRoundTripWrong)

end Rows
end Go.Proofs.Qxb6601292a
