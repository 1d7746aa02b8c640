import Derived.Test.Qxb6613990aRows
import Derived.WalkKit
import Derived.ProofKit
import Derived.OpenShut
import Derived.Laws.Pointers
import Derived.RowKit3
namespace Go.Proofs.Qxb6613990a
open Go.ChangeShapes Go.WideShapes Go.ChangeAt Go.RowKit

/-! ### The plain laws: the wait of n seconds is 'wrap64 (n * 1000000000)' -/
theorem add_law (a b : Int) : wrap64 (wrap64 (a + b) * 1000000000) = wrap64 (wrap64 (a * 1000000000) + wrap64 (b * 1000000000)) := by
  unfold wrap64; omega
theorem in_law (a : Int) (h1 : ¬ a < -9223372036) (h2 : ¬ 9223372036 < a) : wrap64 (a * 1000000000) = a * 1000000000 := by
  unfold wrap64; omega
theorem tdiv_law (a : Int) : (a * 1000000000).tdiv 1000000000 = a := Int.mul_tdiv_cancel _ (by decide)
theorem tmod_law (a : Int) : (a * 1000000000).tmod 1000000000 = 0 := Int.mul_tmod_left _ _

theorem neg_law (a : Int) (h1 : ¬ a < -9223372036) (h2 : ¬ 9223372036 < a) : wrap64 (-a * 1000000000) = -(a * 1000000000) := by
  unfold wrap64; omega

/-- '(*Sleep).Duration' behind a pointer to a Sleep. -/
theorem duration_any (p : Addr) (n : Int) (w : World) (hc : w.cell? p = some (.int .i64 n)) :
    Calls Try.prog 6 #[.pointer (some p)] w fun e w' => e = .returned (.int .i64 (wrap64 (n * 1000000000))) ∧ w' = w := by
  go_enter Try.func6, Try.ntmps6
  go_wp2
  go_ret
  exact ⟨rfl, rfl⟩

/-- 'sleepNanos': a new block for the Sleep, its wait read. -/
theorem sleep_any (n : Int) (w : World) :
    Calls Try.prog 5 #[.int .i64 n] w fun e w' => e = .returned (.int .i64 (wrap64 (n * 1000000000))) ∧ ∃ (c : Array Value) (t : TypeId), w' = w.alloc (.cells c t) := by
  go_enter Try.func5, Try.ntmps5
  go_wp2
  go_ret
  exact ⟨rfl, _, _, rfl⟩
end Go.Proofs.Qxb6613990a
