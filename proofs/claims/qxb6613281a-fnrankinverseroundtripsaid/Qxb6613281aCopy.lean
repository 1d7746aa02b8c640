/- 'copy' into a block of the call's own; a block that is filled cell by cell. -/
import Derived.Test.Qxb6613281aPerm
namespace Go.Proofs.Qxb6613281a
open Go.RowKit

theorem below_trans {B : Nat} {u v w : World} (h1 : Below B u v) (h2 : Below v.heap.size v w) (hB : B ≤ v.heap.size) : Below B u w := h1.trans (h2.mono hB)

/-- 'zzc := make([]int, len(c)); copy(zzc, c)': the copy's run, laid ahead of the walk. -/
theorem copy_eq (w1 : World) (x : Option Addr) (g n cap : Nat) (xs : List Int) (hn : n = xs.length) (hs : Sl w1 x xs) (hb : Blk w1 g 3 (List.replicate n (.int .i64 0))) :
    ∃ w2, (∀ ty, (Builtin.copy_ #[22, 22] ty #[.slice (some ⟨g, 0, none⟩) n n, .slice x n cap]).run Try.prog w1 = .ok (.int .i64 n) w2) ∧ Blk w2 g 3 (ints xs) ∧ ∀ B, B ≤ g → Below B w1 w2 := by
  have hsz : (Try.prog.info? 3).map (·.size) = some 1 := by kernel_rfl
  by_cases h0 : 0 < xs.length
  · obtain ⟨b, off, rfl, _, hc⟩ := hs h0
    have hsrc : ∀ j v, (ints xs)[j]? = some v → w1.cell? ((⟨b, off, none⟩ : Addr).add j) = some v := by
      intro j v hv
      obtain ⟨h, _⟩ := List.getElem?_eq_some_iff.1 hv
      have hj : j < xs.length := by rwa [ints_length] at h
      rw [Go.WideShapes.add_plain, hc j hj, ← hv]
      simp [ints, hj, List.getD_eq_getElem?_getD]
    have h1 : ∀ v ∈ ints xs, v.oneCell' = true := by
      intro v hv
      simp only [ints, List.mem_map] at hv
      obtain ⟨y, _, rfl⟩ := hv
      rfl
    have hrun := fun ty => run_copy_row (P := Try.prog) w1 22 22 ty 3 g 0 n n ⟨b, off, none⟩ n cap _ 3 (ints xs) Try.underlying22 hsz hb (by rw [ints_length, hn]; exact (Nat.min_self _).symm) hsrc (by simp [ints_length, hn]) h1
    have hblk := setRow_heap w1 g _ (ints xs).toArray 3 _ hb
    have e : ((List.replicate n (Value.int .i64 0)).toArray.toList.take 0 ++ ints xs ++ (List.replicate n (Value.int .i64 0)).toArray.toList.drop (0 + (ints xs).length)) = ints xs := by
      simp [ints_length, hn]
    rw [e] at hrun
    refine ⟨_, fun ty => (hrun ty).trans ?_, hblk, fun B hB => below_setRow (Below.refl _ _) hB _⟩
    rw [ints_length, ← hn]; rfl
  · obtain rfl : xs = [] := List.length_eq_zero_iff.1 (by omega)
    simp at hn
    subst hn
    exact ⟨w1, fun ty => run_copy_none (P := Try.prog) w1 22 22 ty 3 _ _ 0 0 0 cap Try.underlying22 hsz (by simp), hb, fun B _ => Below.refl _ _⟩

/-- What 'rot' holds behind t rounds. -/
def part (L : List Int) (t : Nat) : List Int := L.take t ++ List.replicate (L.length - t) 0
theorem part_zero (L : List Int) : part L 0 = List.replicate L.length 0 := by simp [part]
theorem part_full (L : List Int) : part L L.length = L := by simp [part]
theorem part_length {L : List Int} {t : Nat} (h : t ≤ L.length) : (part L t).length = L.length := by simp [part]; omega
theorem part_succ {L : List Int} {t : Nat} (h : t < L.length) : (part L t).set t (L.getD t 0) = part L (t + 1) := by
  unfold part
  rw [List.set_append_right _ _ (by simp; omega), getD_at h, List.take_succ_eq_append_getElem h, List.append_assoc]
  congr 1
  obtain ⟨m, hm⟩ : ∃ m, L.length - t = m + 1 := ⟨L.length - t - 1, by omega⟩
  rw [hm, show L.length - (t + 1) = m by omega, List.replicate_succ]
  simp [Nat.min_eq_left (Nat.le_of_lt h)]
theorem ints_set (L : List Int) (t : Nat) (v : Int) : (ints L).set t (.int .i64 v) = ints (L.set t v) := by simp [ints, List.map_set]
theorem ints_zero (n : Nat) : ints (List.replicate n 0) = List.replicate n (.int .i64 0) := by simp [ints]

end Go.Proofs.Qxb6613281a
