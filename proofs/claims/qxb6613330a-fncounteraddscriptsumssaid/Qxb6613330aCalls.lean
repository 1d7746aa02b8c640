/- The contracts of the functions that the law calls. -/
import Derived.Test.Qxb6613330aBlk
import Derived.ProofKit
import Derived.StillTactics
import Derived.Laws.Pointers
import Derived.Laws.LoneSync
import Derived.WalkSpells
namespace Go.Proofs.Qxb6613330a
open Go.RowKit

theorem Try.info25 : (Try.prog.info? 25).map (fun i => (i.zero, i.size, i.bytes)) = some (some (.int .u64 0), 1, 8) := by kernel_rfl
theorem Try.info38 : (Try.prog.info? 38).map (fun i => (i.zero, i.size, i.bytes)) = some (some (.agg #[.int .u64 0]), 1, 8) := by kernel_rfl

/-- The lengths' bound. -/
theorem zz_small (k : Int) (a1 : Option Addr) (n1 c1 : Nat) (a2 : Option Addr) (n2 c2 : Nat) (w : World) (h : (n1 : Int) + (n2 : Int) ≤ 1048576) :
    Calls Try.prog 4 #[.int .i64 k, .slice a1 n1 c1, .slice a2 n2 c2] w fun e w' => e = .returned (.bool true) ∧ w = w' := by
  go_enter Try.func4, Try.ntmps4
  go_wp2
  go_ret
  exact ⟨rfl, rfl⟩
theorem zz_great (k : Int) (a1 : Option Addr) (n1 c1 : Nat) (a2 : Option Addr) (n2 c2 : Nat) (w : World) (h : (1048576 : Int) < (n1 : Int) + (n2 : Int)) :
    Calls Try.prog 4 #[.int .i64 k, .slice a1 n1 c1, .slice a2 n2 c2] w fun e w' => e = .returned (.bool false) ∧ w = w' := by
  by_cases h1 : (1048576 : Int) < (n1 : Int)
  · go_enter Try.func4, Try.ntmps4
    go_wp2
    go_ret
    exact ⟨rfl, rfl⟩
  by_cases h2 : (1048576 : Int) < (n2 : Int)
  · go_enter Try.func4, Try.ntmps4
    go_wp2
    go_ret
    exact ⟨rfl, rfl⟩
  go_enter Try.func4, Try.ntmps4
  go_wp2
  go_ret
  exact ⟨rfl, rfl⟩

/-- What ZZnewCounter leaves: K counts of 0 in a block of their own, the Counter in another. -/
def NewC (K : Nat) (w : World) (e : Ending) (w' : World) : Prop :=
  ∃ p, e = .returned (.pointer (some ⟨p, 0, none⟩)) ∧ Blk w' w.heap.size 38 (List.replicate K (.int .u64 0)) ∧ Blk w' p 33 [.slice (some ⟨w.heap.size, 0, none⟩) K K] ∧ w.heap.size < p ∧ Below w.heap.size w w'
theorem new_any (K : Nat) (w : World) (hK : K ≤ 65536) : Calls Try.prog 5 #[.int .i64 K] w (NewC K w) := by
  go_enter Try.func5, Try.ntmps5
  go_wp2_with (at_make; refine wpList_make_blk _ rfl _ _ 31 rfl 38 (.agg #[.int .u64 0]) (.int .u64 0) 8 Try.underlying31 Try.info38 rfl _ _ _ _ K rfl rfl (by omega) (by omega) (by omega) (by unfold maxLen; omega) ?_; intro w1 hblk hbel hlt)
  go_ret
  refine ⟨w1.heap.size, rfl, hblk.out.below ((Below.refl _ _).alloc (Nat.le_refl _) _) hlt, ?_, hlt, hbel.alloc (by omega) _⟩
  show (w1.heap.push _)[w1.heap.size]? = _
  simp

/-- (*Counter).Add -/
theorem add_any (p g K i : Nat) (x y : Int) (w : World) (hi : i < K) (hp : w.cell? ⟨p, 0, none⟩ = some (.slice (some ⟨g, 0, none⟩) K K))
    (hc : w.cell? ⟨g, i, none⟩ = some (.int .u64 x)) (hf : w.frozen? ⟨g, i, none⟩ = false) :
    Calls Try.prog 6 #[.pointer (some ⟨p, 0, none⟩), .int .i64 i, .int .u64 y] w fun e w' => e = .returned (.tuple #[]) ∧ w' = w.setCell ⟨g, i, none⟩ (.int .u64 (IntKind.u64.wrap (x + y))) := by
  have hadd := run_call_add (P := Try.prog) Try.func11 (by kernel_rfl) (by kernel_rfl) (by kernel_rfl) .u64 (by kernel_rfl) (x := x) (y := y) (s := IntKind.u64.wrap (x + y)) hc hf (by simp [go_sem])
  go_enter Try.func6, Try.ntmps6
  go_wp2
  go_end0
  exact ⟨rfl, rfl⟩

theorem len_any (p g K : Nat) (w : World) (hp : w.cell? ⟨p, 0, none⟩ = some (.slice (some ⟨g, 0, none⟩) K K)) :
    Calls Try.prog 7 #[.pointer (some ⟨p, 0, none⟩)] w fun e w' => e = .returned (.int .i64 K) ∧ w = w' := by
  go_enter Try.func7, Try.ntmps7
  go_wp2
  go_ret
  exact ⟨rfl, rfl⟩

theorem count_any (p g K i : Nat) (x : Int) (w : World) (hi : i < K) (hp : w.cell? ⟨p, 0, none⟩ = some (.slice (some ⟨g, 0, none⟩) K K))
    (hc : w.cell? ⟨g, i, none⟩ = some (.int .u64 x)) :
    Calls Try.prog 8 #[.pointer (some ⟨p, 0, none⟩), .int .i64 i] w fun e w' => e = .returned (.int .u64 x) ∧ w = w' := by
  have hload := run_call_load (P := Try.prog) Try.func12 (by kernel_rfl) (by kernel_rfl) (by kernel_rfl) .u64 (by kernel_rfl) hc
  go_enter Try.func8, Try.ntmps8
  go_wp2
  go_ret
  exact ⟨rfl, rfl⟩
end Go.Proofs.Qxb6613330a
