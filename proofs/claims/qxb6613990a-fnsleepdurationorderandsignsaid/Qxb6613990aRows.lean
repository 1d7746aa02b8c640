/-
  No cell of these rows narrows 'for every input' (looked for: loops, veiled, ifaces, maps, wideKeys, modest, calm, conditions, laid).
  DERIVED. THE GIVEN ROWS OF THIS SEAT. 2 by the template 'for every input the law returns true; each argument reads behind the call as it read before'; 0 by the template 'total and deterministic' (their statements: Qxb6613990aTotals.lean).
  GIVEN WITH THE SEED: the statements are not yours to turn. If you find one false, say at which input.
  Laid BY PROGRAM, IN A SANDBOX (cutbox-rows.mjs): the forced cells as the released guide's own fill.sh prints them over the translation 975549d3e6e6cda7… (all of the seat's roots in one cut). By AI agents, Wed Nov 11 2026. No macro, syntax, notation, axiom, sorry.
-/
import Derived.Test.Qxb6613990aChecked
import GoSem.Claim
import GoSem.ClaimJoined
import GoSem.ClaimMapViews
import Derived.JoinedTies
import Derived.KernelRfl
namespace Go.Proofs.Qxb6613990a
/- THE CELL 'sum', in the pinned program and in every row, IS THE sha256 OF THE DUMP (.gsa) THAT Qxb6613990aProg.lean LOADS. Nothing in Lean hashes anything: it is a label: what it is worth is what the hold of that sum in a sandbox is worth. -/
noncomputable def Try.pinned : Pinned := { name := "qxb6613990a", sum := "975549d3e6e6cda742e3b1a0abd996df796651ec24923f1d7784ccade7167ebd", checked := Try.checked }
namespace Rows
def none {H : Type} : Left H := { results := [], args := [] }

/-- 'zzlaws_lifecycle_b1.FnSleepDurationAdditive': WHATEVER THE INPUT: true; the input reads as it did. -/
def fnSleepDurationAdditiveSpec : ChangeSpec := { name := "fnSleepDurationAdditive", fn := fun _ => fun
  | [d1, d2] => { results := [.lit (.bool true)], args := [d1, d2] }
  | _ => none }
def fnSleepDurationAdditiveRow : OpenClaim := { program := "qxb6613990a", sum := "975549d3e6e6cda742e3b1a0abd996df796651ec24923f1d7784ccade7167ebd", func := "example.com/hookline/hookline/zzlaws_lifecycle_b1.FnSleepDurationAdditive", spec := "fnSleepDurationAdditive", apart := false }
def FnSleepDurationAdditiveSaid : Prop := fnSleepDurationAdditiveRow.holds Try.pinned (OpenSpec.ofChange fnSleepDurationAdditiveSpec)

/-- ITS FALSE NEIGHBOUR: 'it returns false'. Refute it at one input. -/
def fnSleepDurationAdditiveWrong : ChangeSpec := { name := "fnSleepDurationAdditive", fn := fun _ => fun
  | [d1, d2] => { results := [.lit (.bool false)], args := [d1, d2] }
  | _ => none }
def FnSleepDurationAdditiveWrongFalsely : Prop := fnSleepDurationAdditiveRow.holds Try.pinned (OpenSpec.ofChange fnSleepDurationAdditiveWrong)

/-- 'zzlaws_lifecycle_b1.FnSleepDurationOrderAndSign': WHATEVER THE INPUT: true; the input reads as it did. -/
def fnSleepDurationOrderAndSignSpec : ChangeSpec := { name := "fnSleepDurationOrderAndSign", fn := fun _ => fun
  | [d1, d2] => { results := [.lit (.bool true)], args := [d1, d2] }
  | _ => none }
def fnSleepDurationOrderAndSignRow : OpenClaim := { program := "qxb6613990a", sum := "975549d3e6e6cda742e3b1a0abd996df796651ec24923f1d7784ccade7167ebd", func := "example.com/hookline/hookline/zzlaws_lifecycle_b1.FnSleepDurationOrderAndSign", spec := "fnSleepDurationOrderAndSign", apart := false }
def FnSleepDurationOrderAndSignSaid : Prop := fnSleepDurationOrderAndSignRow.holds Try.pinned (OpenSpec.ofChange fnSleepDurationOrderAndSignSpec)

/-- ITS FALSE NEIGHBOUR: 'it returns false'. Refute it at one input. -/
def fnSleepDurationOrderAndSignWrong : ChangeSpec := { name := "fnSleepDurationOrderAndSign", fn := fun _ => fun
  | [d1, d2] => { results := [.lit (.bool false)], args := [d1, d2] }
  | _ => none }
def FnSleepDurationOrderAndSignWrongFalsely : Prop := fnSleepDurationOrderAndSignRow.holds Try.pinned (OpenSpec.ofChange fnSleepDurationOrderAndSignWrong)

end Rows
end Go.Proofs.Qxb6613990a
