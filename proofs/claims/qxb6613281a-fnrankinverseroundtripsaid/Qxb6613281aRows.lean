/-
  No cell of these rows narrows 'for every input' (looked for: loops, veiled, ifaces, maps, wideKeys, modest, calm, conditions, laid).
  DERIVED. THE GIVEN ROWS OF THIS SEAT. 2 by the template 'for every input the law returns true; each argument reads behind the call as it read before'; 0 by the template 'total and deterministic' (their statements: Qxb6613281aTotals.lean).
  GIVEN WITH THE SEED: the statements are not yours to turn. If you find one false, say at which input.
  Laid BY PROGRAM, IN A SANDBOX (cutbox-rows.mjs): the forced cells as the released guide's own fill.sh prints them over the translation c2f1c6ef3991709b… (all of the seat's roots in one cut). By AI agents, Wed Nov 11 2026. No macro, syntax, notation, axiom, sorry.
-/
import Derived.Test.Qxb6613281aChecked
import GoSem.Claim
import GoSem.ClaimJoined
import GoSem.ClaimMapViews
import Derived.JoinedTies
import Derived.KernelRfl
namespace Go.Proofs.Qxb6613281a
/- THE CELL 'sum', in the pinned program and in every row, IS THE sha256 OF THE DUMP (.gsa) THAT Qxb6613281aProg.lean LOADS. Nothing in Lean hashes anything: it is a label: what it is worth is what the hold of that sum in a sandbox is worth. -/
noncomputable def Try.pinned : Pinned := { name := "qxb6613281a", sum := "c2f1c6ef3991709bce245a26a81459cbd8a76fef2ba13c9a3de934fa6c5a5a19", checked := Try.checked }
namespace Rows
def none {H : Type} : Left H := { results := [], args := [] }

/-- 'zzlaws_pkg_robust_b1.FnRankFollowsRotation': WHATEVER THE INPUT: true; the input reads as it did. -/
def fnRankFollowsRotationSpec : ChangeSpec := { name := "fnRankFollowsRotation", fn := fun _ => fun
  | [d1, d2, d3] => { results := [.lit (.bool true)], args := [d1, d2, d3] }
  | _ => none }
def fnRankFollowsRotationRow : OpenClaim := { program := "qxb6613281a", sum := "c2f1c6ef3991709bce245a26a81459cbd8a76fef2ba13c9a3de934fa6c5a5a19", func := "example.com/keelcheck/keelcheck/zzlaws_pkg_robust_b1.FnRankFollowsRotation", spec := "fnRankFollowsRotation", apart := false }
def FnRankFollowsRotationSaid : Prop := fnRankFollowsRotationRow.holds Try.pinned (OpenSpec.ofChange fnRankFollowsRotationSpec)

/-- ITS FALSE NEIGHBOUR: 'it returns false'. Refute it at one input. -/
def fnRankFollowsRotationWrong : ChangeSpec := { name := "fnRankFollowsRotation", fn := fun _ => fun
  | [d1, d2, d3] => { results := [.lit (.bool false)], args := [d1, d2, d3] }
  | _ => none }
def FnRankFollowsRotationWrongFalsely : Prop := fnRankFollowsRotationRow.holds Try.pinned (OpenSpec.ofChange fnRankFollowsRotationWrong)

/-- 'zzlaws_pkg_robust_b1.FnRankInverseRoundTrip': WHATEVER THE INPUT: true; the input reads as it did. -/
def fnRankInverseRoundTripSpec : ChangeSpec := { name := "fnRankInverseRoundTrip", fn := fun _ => fun
  | [d] => { results := [.lit (.bool true)], args := [d] }
  | _ => none }
def fnRankInverseRoundTripRow : OpenClaim := { program := "qxb6613281a", sum := "c2f1c6ef3991709bce245a26a81459cbd8a76fef2ba13c9a3de934fa6c5a5a19", func := "example.com/keelcheck/keelcheck/zzlaws_pkg_robust_b1.FnRankInverseRoundTrip", spec := "fnRankInverseRoundTrip", apart := false }
def FnRankInverseRoundTripSaid : Prop := fnRankInverseRoundTripRow.holds Try.pinned (OpenSpec.ofChange fnRankInverseRoundTripSpec)

/-- ITS FALSE NEIGHBOUR: 'it returns false'. Refute it at one input. -/
def fnRankInverseRoundTripWrong : ChangeSpec := { name := "fnRankInverseRoundTrip", fn := fun _ => fun
  | [d] => { results := [.lit (.bool false)], args := [d] }
  | _ => none }
def FnRankInverseRoundTripWrongFalsely : Prop := fnRankInverseRoundTripRow.holds Try.pinned (OpenSpec.ofChange fnRankInverseRoundTripWrong)

end Rows
end Go.Proofs.Qxb6613281a
