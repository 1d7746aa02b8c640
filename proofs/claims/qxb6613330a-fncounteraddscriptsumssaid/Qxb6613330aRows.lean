/-
  No cell of these rows narrows 'for every input' (looked for: loops, veiled, ifaces, maps, wideKeys, modest, calm, conditions, laid).
  DERIVED. THE GIVEN ROWS OF THIS SEAT. 1 by the template 'for every input the law returns true; each argument reads behind the call as it read before'; 0 by the template 'total and deterministic' (their statements: Qxb6613330aTotals.lean).
  GIVEN WITH THE SEED: the statements are not yours to turn. If you find one false, say at which input.
  Laid BY PROGRAM, IN A SANDBOX (cutbox-rows.mjs): the forced cells as the released guide's own fill.sh prints them over the translation 80eed159625f2818… (all of the seat's roots in one cut). By AI agents, Wed Nov 11 2026. No macro, syntax, notation, axiom, sorry.
-/
import Derived.Test.Qxb6613330aChecked
import GoSem.Claim
import GoSem.ClaimJoined
import GoSem.ClaimMapViews
import Derived.JoinedTies
import Derived.KernelRfl
namespace Go.Proofs.Qxb6613330a
/- THE CELL 'sum', in the pinned program and in every row, IS THE sha256 OF THE DUMP (.gsa) THAT Qxb6613330aProg.lean LOADS. Nothing in Lean hashes anything: it is a label: what it is worth is what the hold of that sum in a sandbox is worth. -/
noncomputable def Try.pinned : Pinned := { name := "qxb6613330a", sum := "80eed159625f28180a6d90b68f4883e3c28c39940f2fc1b9cc3288ee7c89a628", checked := Try.checked }
namespace Rows
def none {H : Type} : Left H := { results := [], args := [] }

/-- 'zzlaws_internal_metrics_b1.FnCounterAddScriptSums': WHATEVER THE INPUT: true; the input reads as it did. -/
def fnCounterAddScriptSumsSpec : ChangeSpec := { name := "fnCounterAddScriptSums", fn := fun _ => fun
  | [d1, d2, d3] => { results := [.lit (.bool true)], args := [d1, d2, d3] }
  | _ => none }
def fnCounterAddScriptSumsRow : OpenClaim := { program := "qxb6613330a", sum := "80eed159625f28180a6d90b68f4883e3c28c39940f2fc1b9cc3288ee7c89a628", func := "example.com/hoardwire/hoardwire/zzlaws_internal_metrics_b1.FnCounterAddScriptSums", spec := "fnCounterAddScriptSums", inPlace := ["sync/atomic.AddUint64", "sync/atomic.LoadUint64"], apart := false }
def FnCounterAddScriptSumsSaid : Prop := fnCounterAddScriptSumsRow.holds Try.pinned (OpenSpec.ofChange fnCounterAddScriptSumsSpec)

/-- ITS FALSE NEIGHBOUR: 'it returns false'. Refute it at one input. -/
def fnCounterAddScriptSumsWrong : ChangeSpec := { name := "fnCounterAddScriptSums", fn := fun _ => fun
  | [d1, d2, d3] => { results := [.lit (.bool false)], args := [d1, d2, d3] }
  | _ => none }
def FnCounterAddScriptSumsWrongFalsely : Prop := fnCounterAddScriptSumsRow.holds Try.pinned (OpenSpec.ofChange fnCounterAddScriptSumsWrong)

end Rows
end Go.Proofs.Qxb6613330a
