/- The contracts of the functions that the two laws call. -/
import Derived.Test.Qxb6613281aBlk
import Derived.ProofKit
import Derived.StillTactics
import Derived.Laws.Pointers
import Derived.WalkSpells
namespace Go.Proofs.Qxb6613281a
open Go.RowKit

/-- The length's bound, zzBytes of the first law. -/
theorem small5 (a : Option Addr) (n cap : Nat) (i k : Int) (w : World) (h : (n : Int) ≤ 1048576) :
    Calls Try.prog 5 #[.slice a n cap, .int .i64 i, .int .i64 k] w fun e w' => e = .returned (.bool true) ∧ w = w' := by
  go_enter Try.func5, Try.ntmps5
  go_wp2
  go_ret
  exact ⟨rfl, rfl⟩
theorem great5 (a : Option Addr) (n cap : Nat) (i k : Int) (w : World) (h : (1048576 : Int) < (n : Int)) :
    Calls Try.prog 5 #[.slice a n cap, .int .i64 i, .int .i64 k] w fun e w' => e = .returned (.bool false) ∧ w = w' := by
  go_enter Try.func5, Try.ntmps5
  go_wp2
  go_ret
  exact ⟨rfl, rfl⟩
theorem small8 (a : Option Addr) (n cap : Nat) (w : World) (h : (n : Int) ≤ 1048576) :
    Calls Try.prog 8 #[.slice a n cap] w fun e w' => e = .returned (.bool true) ∧ w = w' := by
  go_enter Try.func8, Try.ntmps8
  go_wp2
  go_ret
  exact ⟨rfl, rfl⟩
theorem great8 (a : Option Addr) (n cap : Nat) (w : World) (h : (1048576 : Int) < (n : Int)) :
    Calls Try.prog 8 #[.slice a n cap] w fun e w' => e = .returned (.bool false) ∧ w = w' := by
  go_enter Try.func8, Try.ntmps8
  go_wp2
  go_ret
  exact ⟨rfl, rfl⟩

/-- slices.Index at []int, the slice empty. -/
theorem index_nil (a : Option Addr) (cap : Nat) (v : Int) (w : World) :
    Calls Try.prog 10 #[.slice a 0 cap, .int .i64 v] w fun e w' => e = .returned (.int .i64 (-1)) ∧ w' = w := by
  go_enter Try.func10, Try.ntmps10
  go_wp2
  go_loop [8] (fun i => i = .int .i64 0) (fun _ => 0)
  case atStart => rfl
  case round =>
    subst hrel
    go_wp2
    go_ret
    exact ⟨rfl, rfl⟩

theorem index_some (b off n cap : Nat) (xs : List Int) (v : Int) (w : World) (hn : n = xs.length) (hl : n ≤ 1048576)
    (hc : ∀ j, j < n → w.cell? ⟨b, off + j, none⟩ = some (.int .i64 (xs.getD j 0))) :
    Calls Try.prog 10 #[.slice (some ⟨b, off, none⟩) n cap, .int .i64 v] w fun e w' => e = .returned (.int .i64 (rk xs v)) ∧ w' = w := by
  have HN : Hid (n = xs.length) := hn
  clear hn
  go_enter Try.func10, Try.ntmps10
  go_wp2
  go_loop [8] (fun i => ∃ k : Nat, k ≤ n ∧ i = .int .i64 k ∧ Hid (∀ j, j < k → xs.getD j 0 ≠ v)) (fun i => n - (intOf i).toNat)
  case atStart => exact ⟨0, Nat.zero_le _, rfl, fun j hj => absurd hj (by omega)⟩
  case round =>
    obtain ⟨k, hk, rfl, HB⟩ := hrel
    by_cases hlt : k < n
    · have hck := hc k hlt
      obtain ⟨x, hx⟩ : ∃ x, x = xs.getD k 0 := ⟨_, rfl⟩
      rw [← hx] at hck
      have HX : Hid (x = xs.getD k 0) := hx
      clear hx hc
      by_cases hv : v = x
      · subst hv
        go_wp2
        go_ret
        have hN := HN.out
        exact ⟨by rw [rk_hit (by omega) HX.out.symm HB.out]; rfl, rfl⟩
      · have hv' : (v == x) = false := by simpa using hv
        go_wp2
        go_round
        case rel =>
          refine ⟨k + 1, by omega, by go_num, fun j hj => ?_⟩
          by_cases hjk : j < k
          · exact HB.out j hjk
          · have : j = k := by omega
            subst this
            rw [← HX.out]; exact fun e => hv e.symm
        case measure => simp [intOf]; omega
    · have hkn : k = n := by omega
      clear hc
      go_wp2
      go_ret
      have hN := HN.out
      have hB := HB.out
      exact ⟨by rw [rk_none (by rw [← hN, ← hkn]; exact hB)]; rfl, rfl⟩

theorem index_any (a : Option Addr) (cap : Nat) (xs : List Int) (v : Int) (w : World) (hs : Sl w a xs) (hl : xs.length ≤ 1048576) :
    Calls Try.prog 10 #[.slice a xs.length cap, .int .i64 v] w fun e w' => e = .returned (.int .i64 (rk xs v)) ∧ w' = w := by
  by_cases h0 : 0 < xs.length
  · obtain ⟨b, off, rfl, _, hc⟩ := hs h0
    exact index_some b off _ cap xs v w rfl hl hc
  · obtain rfl : xs = [] := List.length_eq_zero_iff.1 (by omega)
    exact index_nil a cap v w
end Go.Proofs.Qxb6613281a
