import Derived.Test.Qxb6613234aRows
import Derived.WalkKit
import Derived.ProofKit
import Derived.OpenShut
import Derived.Laws.Pointers
import Derived.RowKit3
import Derived.WalkSpells
import Derived.LaidEqlPtr
namespace Go.Proofs.Qxb6613234a
open Go.ChangeShapes Go.WideShapes Go.ChangeAt Go.RowKit

theorem Try.cells3 : Try.prog.cellsOf 3 = 1 := by kernel_rfl
theorem Try.cells28 : Try.prog.cellsOf 28 = 1 := by kernel_rfl

theorem info3 : (Try.prog.info? 3).isSome = true := by kernel_rfl
/-- 'p != p' on a pointer to an int. -/
theorem neq_ptr (p : Addr) (w : World) : (binOp .neq 28 (.pointer (some p)) (.pointer (some p))).run Try.prog w = .ok (.bool false) w := by
  obtain ⟨j, hte⟩ := Option.isSome_iff_exists.1 info3
  have h : ∀ d : Nat, (Op.equalIn (d + 1) 28 (.pointer (some p)) (.pointer (some p))).run Try.prog w = .ok true w := fun d => by
    simp [Op.equalIn, run_underlying Try.underlying28, sizeOf, typeInfo, hte, run_sameAddr_same]
  simp only [binOp]
  simp [Op.equal, Op.maxDepth, h 9999]

/-- '(*Counts).fields' -/
theorem fields_any (b : Nat) (w : World) :
    Calls Try.prog 5 #[.pointer (some ⟨b, 0, none⟩)] w fun e w' => e = .returned (.slice (some ⟨w.heap.size, 0, none⟩) 3 3) ∧ w' = (w.alloc (.cells #[.pointer (some ⟨b, 0, none⟩), .pointer (some ⟨b, 1, none⟩), .pointer (some ⟨b, 2, none⟩)] 28)).drew := by
  go_enter Try.func5, Try.ntmps5
  go_wp2
  go_region
  all_goals go_wp2
  all_goals go_ret
  all_goals exact ⟨rfl, rfl⟩

/-- 'ZZCountsFields' -/
theorem zz_any (b : Nat) (w : World) :
    Calls Try.prog 4 #[.pointer (some ⟨b, 0, none⟩)] w fun e w' => e = .returned (.slice (some ⟨w.heap.size, 0, none⟩) 3 3) ∧ w' = (w.alloc (.cells #[.pointer (some ⟨b, 0, none⟩), .pointer (some ⟨b, 1, none⟩), .pointer (some ⟨b, 2, none⟩)] 28)).drew := by
  go_enter Try.func4, Try.ntmps4
  go_wp2_with (go_at_call 5; refine (fields_any _ _).mono ?_; rintro e w' ⟨rfl, rfl⟩)
  go_ret
  exact ⟨rfl, rfl⟩
end Go.Proofs.Qxb6613234a
