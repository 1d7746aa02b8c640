/-
  No cell of these rows narrows 'for every input' (looked for: loops, veiled, ifaces, maps, wideKeys, modest, calm, conditions, laid).
  DERIVED. THE GIVEN ROWS OF THIS SEAT. 1 by the template 'for every input the law returns true; each argument reads behind the call as it read before'; 0 by the template 'total and deterministic' (their statements: Qxb6613234aTotals.lean).
  GIVEN WITH THE SEED: the statements are not yours to turn. If you find one false, say at which input.
  Laid BY PROGRAM, IN A SANDBOX (cutbox-rows.mjs): the forced cells as the released guide's own fill.sh prints them over the translation ea54192512d87c68… (all of the seat's roots in one cut). By AI agents, Wed Nov 11 2026. No macro, syntax, notation, axiom, sorry.
-/
import Derived.Test.Qxb6613234aChecked
import GoSem.Claim
import GoSem.ClaimJoined
import GoSem.ClaimMapViews
import Derived.JoinedTies
import Derived.KernelRfl
namespace Go.Proofs.Qxb6613234a
/- THE CELL 'sum', in the pinned program and in every row, IS THE sha256 OF THE DUMP (.gsa) THAT Qxb6613234aProg.lean LOADS. Nothing in Lean hashes anything: it is a label: what it is worth is what the hold of that sum in a sandbox is worth. -/
noncomputable def Try.pinned : Pinned := { name := "qxb6613234a", sum := "ea54192512d87c68fc9598f8c93cb3f01963726e06178add67bf73381d31b5ef", checked := Try.checked }
namespace Rows
def none {H : Type} : Left H := { results := [], args := [] }

/-- 'zzlaws_internal_txlog_b1.FnCountsFieldsAreALiveViewInOrder': WHATEVER THE INPUT: true; the input reads as it did. -/
def fnCountsFieldsAreALiveViewInOrderSpec : ChangeSpec := { name := "fnCountsFieldsAreALiveViewInOrder", fn := fun _ => fun
  | [d1, d2, d3, d4] => { results := [.lit (.bool true)], args := [d1, d2, d3, d4] }
  | _ => none }
def fnCountsFieldsAreALiveViewInOrderRow : OpenClaim := { program := "qxb6613234a", sum := "ea54192512d87c68fc9598f8c93cb3f01963726e06178add67bf73381d31b5ef", func := "example.com/pactum/pactum/zzlaws_internal_txlog_b1.FnCountsFieldsAreALiveViewInOrder", spec := "fnCountsFieldsAreALiveViewInOrder", apart := false }
def FnCountsFieldsAreALiveViewInOrderSaid : Prop := fnCountsFieldsAreALiveViewInOrderRow.holds Try.pinned (OpenSpec.ofChange fnCountsFieldsAreALiveViewInOrderSpec)

/-- ITS FALSE NEIGHBOUR: 'it returns false'. Refute it at one input. -/
def fnCountsFieldsAreALiveViewInOrderWrong : ChangeSpec := { name := "fnCountsFieldsAreALiveViewInOrder", fn := fun _ => fun
  | [d1, d2, d3, d4] => { results := [.lit (.bool false)], args := [d1, d2, d3, d4] }
  | _ => none }
def FnCountsFieldsAreALiveViewInOrderWrongFalsely : Prop := fnCountsFieldsAreALiveViewInOrderRow.holds Try.pinned (OpenSpec.ofChange fnCountsFieldsAreALiveViewInOrderWrong)

end Rows
end Go.Proofs.Qxb6613234a
