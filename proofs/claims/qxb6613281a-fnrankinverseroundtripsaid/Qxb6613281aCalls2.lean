/- The contracts of ZZrank and isPerm. -/
import Derived.Test.Qxb6613281aCalls
namespace Go.Proofs.Qxb6613281a
open Go.RowKit

/-- '(*splitSchedule).rank': the commits are the fifth field. -/
theorem rank9 (b : Nat) (a : Option Addr) (cap : Nat) (xs : List Int) (v : Int) (w : World) (hc : w.cell? ⟨b, 4, none⟩ = some (.slice a xs.length cap)) (hs : Hid (Sl w a xs)) (hl : xs.length ≤ 1048576) :
    Calls Try.prog 9 #[.pointer (some ⟨b, 0, none⟩), .int .i64 v] w fun e w' => e = .returned (.int .i64 (rk xs v)) ∧ w' = w := by
  go_enter Try.func9, Try.ntmps9
  go_wp2_with (go_at_call 10; refine (index_any _ _ _ _ _ hs.out hl).mono ?_; rintro e w' ⟨rfl, rfl⟩)
  go_ret
  exact ⟨rfl, rfl⟩

/-- ZZrank: the position of v in the commit order; new memory alone. -/
theorem rank_any (a : Option Addr) (n cap : Nat) (xs : List Int) (v : Int) (w : World) (hn : n = xs.length) (hs : Sl w a xs) (hl : n ≤ 1048576) :
    Calls Try.prog 7 #[.slice a n cap, .int .i64 v] w fun e w' => e = .returned (.int .i64 (rk xs v)) ∧ ∃ (c : Array Value) (t : TypeId), w' = w.alloc (.cells c t) := by
  subst hn
  have HS : Hid (Sl w a xs) := hs
  clear hs
  go_enter Try.func7, Try.ntmps7
  go_wp2_with (go_at_call 9; refine (rank9 _ a cap xs _ _ (by simp [go_sem]) (HS.out.below ((Below.refl _ _).alloc (Nat.le_refl _) _)) hl).mono ?_; rintro e w' ⟨rfl, rfl⟩)
  go_ret
  exact ⟨rfl, _, _, rfl⟩

/-! ### isPerm -/
/-- What 'seen' holds behind k rounds: which of 0 .. n-1 are among the first k. -/
def seen (xs : List Int) (k : Nat) : List Value := (List.range xs.length).map fun u : Nat => Value.bool (decide ((u : Int) ∈ xs.take k))
theorem seen_length (xs : List Int) (k : Nat) : (seen xs k).length = xs.length := by simp [seen]
theorem seen_at (xs : List Int) (k u : Nat) (hu : u < xs.length) : (seen xs k)[u]? = some (.bool (decide ((u : Int) ∈ xs.take k))) := by simp [seen, hu]
theorem seen_zero (xs : List Int) : seen xs 0 = List.replicate xs.length (.bool false) := by
  apply List.ext_getElem?
  intro i
  by_cases h : i < xs.length
  · rw [seen_at _ _ _ h]; simp [h]
  · simp [seen, h]
theorem take_succ_mem {xs : List Int} {k : Nat} (hk : k < xs.length) {v : Int} : v ∈ xs.take (k + 1) ↔ v ∈ xs.take k ∨ v = xs.getD k 0 := by
  rw [List.take_succ_eq_append_getElem hk, getD_at hk, List.mem_append, List.mem_singleton]
theorem seen_succ {xs : List Int} {k u : Nat} (hk : k < xs.length) (hu : xs.getD k 0 = (u : Int)) : (seen xs k).set u (.bool true) = seen xs (k + 1) := by
  apply List.ext_getElem?
  intro i
  by_cases h : i < xs.length
  · rw [List.getElem?_set, seen_length, seen_at _ _ _ h, seen_at _ _ _ h]
    by_cases hi : u = i
    · subst hi
      simp [h, take_succ_mem hk, -List.getD_eq_getElem?_getD, hu]
    · have : ¬ (i : Int) = xs.getD k 0 := by omega
      simp [hi, take_succ_mem hk, -List.getD_eq_getElem?_getD, this]
  · rw [List.getElem?_eq_none (by simp [seen]; omega), List.getElem?_eq_none (by simp [seen]; omega)]

/-- The first k are within 0 .. n-1 and differ. -/
def Good (xs : List Int) (k : Nat) : Prop := (xs.take k).Nodup ∧ ∀ j, j < k → 0 ≤ xs.getD j 0 ∧ xs.getD j 0 < xs.length
theorem Good.zero (xs : List Int) : Good xs 0 := ⟨by simp, fun j h => absurd h (by omega)⟩
theorem Good.succ {xs : List Int} {k : Nat} (h : Good xs k) (hk : k < xs.length) (h0 : 0 ≤ xs.getD k 0) (h1 : xs.getD k 0 < xs.length) (hn : xs.getD k 0 ∉ xs.take k) : Good xs (k + 1) := by
  refine ⟨?_, fun j hj => ?_⟩
  · rw [List.take_succ_eq_append_getElem hk, ← getD_at hk, List.nodup_append]
    refine ⟨h.1, by simp, ?_⟩
    intro a ha b hb
    simp at hb
    subst hb
    intro e
    subst e
    exact hn (by simpa using ha)
  · by_cases hjk : j < k
    · exact h.2 j hjk
    · obtain rfl : j = k := by omega
      exact ⟨h0, h1⟩
theorem Good.full {xs : List Int} (h : Good xs xs.length) : IsP xs := by
  refine ⟨?_, h.2⟩
  have := h.1
  rwa [List.take_length] at this
end Go.Proofs.Qxb6613281a
