/- The plain mathematics of ranks in a commit order: lists of integers, no Go in sight. -/
namespace Go.Proofs.Qxb6613281a

/-- The position of the first v in xs; -1 where there is none. -/
def rk (xs : List Int) (v : Int) : Int := if v ∈ xs then (xs.idxOf v : Int) else -1

theorem getD_at {xs : List Int} {k : Nat} (hk : k < xs.length) : xs.getD k 0 = xs[k] := by
  rw [List.getD_eq_getElem?_getD, List.getElem?_eq_getElem hk]; rfl
theorem rk_miss {xs : List Int} {v : Int} (h : v ∉ xs) : rk xs v = -1 := by simp [rk, h]
theorem mem_at {xs : List Int} {v : Int} (h : v ∈ xs) : ∃ j, j < xs.length ∧ xs.getD j 0 = v := by
  obtain ⟨j, hj, e⟩ := List.getElem_of_mem h
  exact ⟨j, hj, by rw [getD_at hj, e]⟩
theorem at_mem {xs : List Int} {k : Nat} (hk : k < xs.length) : xs.getD k 0 ∈ xs := by
  rw [getD_at hk]; exact List.getElem_mem hk
theorem rk_mem {xs : List Int} {v : Int} (h : v ∈ xs) : ∃ j, j < xs.length ∧ rk xs v = (j : Int) ∧ xs.getD j 0 = v := by
  have hl := List.idxOf_lt_length_iff.2 h
  exact ⟨xs.idxOf v, hl, by simp [rk, h], by rw [getD_at hl]; exact List.getElem_idxOf hl⟩

/-- What the search comes to: nothing up to k, and there it is. -/
theorem rk_hit {xs : List Int} {v : Int} {k : Nat} (hk : k < xs.length) (hv : xs.getD k 0 = v) (hb : ∀ j, j < k → xs.getD j 0 ≠ v) : rk xs v = (k : Int) := by
  have hm : v ∈ xs := hv ▸ at_mem hk
  have hn : v ∉ xs.take k := by
    intro h
    obtain ⟨j, hj, e⟩ := List.getElem_of_mem h
    have hj' : j < k := by simp at hj; omega
    refine hb j hj' ?_
    rw [getD_at (by omega), ← e]
    simp
  have e : xs = xs.take k ++ (v :: xs.drop (k + 1)) := by
    rw [← hv, getD_at hk, ← List.drop_eq_getElem_cons hk, List.take_append_drop]
  have hi : xs.idxOf v = k := by
    rw [e, List.idxOf_append, if_neg hn, List.idxOf_cons_self]
    simp
    omega
  simp [rk, hm, hi]
/-- Nothing anywhere. -/
theorem rk_none {xs : List Int} {v : Int} (hb : ∀ j, j < xs.length → xs.getD j 0 ≠ v) : rk xs v = -1 := by
  refine rk_miss fun h => ?_
  obtain ⟨j, hj, e⟩ := mem_at h
  exact hb j hj e

/-- In a list without repetition the position is that of the one place. -/
theorem rk_at {xs : List Int} (hd : xs.Nodup) {k : Nat} (hk : k < xs.length) : rk xs (xs.getD k 0) = (k : Int) := by
  have hm := at_mem hk
  rw [getD_at hk] at hm ⊢
  simp only [rk, hm, if_true]
  rw [hd.idxOf_getElem k hk]

/-! ### A permutation of 0 .. n-1 -/
def IsP (xs : List Int) : Prop := xs.Nodup ∧ ∀ j, j < xs.length → 0 ≤ xs.getD j 0 ∧ xs.getD j 0 < xs.length

theorem IsP.mem {xs : List Int} (h : IsP xs) {v : Int} (hv : v ∈ xs) : 0 ≤ v ∧ v < xs.length := by
  obtain ⟨j, hj, e⟩ := mem_at hv
  have := h.2 j hj
  rw [e] at this; exact this
/-- Every number below n stands in it. -/
theorem IsP.onto {xs : List Int} (h : IsP xs) {v : Int} (h0 : 0 ≤ v) (h1 : v < xs.length) : v ∈ xs := by
  refine Classical.byContradiction fun hn => ?_
  have hd : (v :: xs).Nodup := List.nodup_cons.2 ⟨hn, h.1⟩
  have hs : (v :: xs) ⊆ (List.range xs.length).map (fun i : Nat => (i : Int)) := by
    intro u hu
    rw [List.mem_map]
    rcases List.mem_cons.1 hu with rfl | hu
    · exact ⟨u.toNat, by simp; omega, by omega⟩
    · have := h.mem hu
      exact ⟨u.toNat, by simp; omega, by omega⟩
  have := hd.length_le_of_subset hs
  simp at this
  omega

theorem IsP.rank {xs : List Int} (h : IsP xs) {v : Int} (h0 : 0 ≤ v) (h1 : v < xs.length) : ∃ j, j < xs.length ∧ rk xs v = (j : Int) ∧ xs.getD j 0 = v := rk_mem (h.onto h0 h1)
theorem IsP.rank_out {xs : List Int} (h : IsP xs) {v : Int} (hv : v < 0 ∨ (xs.length : Int) ≤ v) : rk xs v = -1 :=
  rk_miss fun hm => by have := h.mem hm; omega

/-! ### Rotation -/
def rotL (xs : List Int) (i : Nat) : List Int := xs.drop i ++ xs.take i
theorem rotL_length (xs : List Int) (i : Nat) : (rotL xs i).length = xs.length := by simp [rotL]; omega
theorem rotL_low {xs : List Int} {i j : Nat} (h : j + i < xs.length) : (rotL xs i).getD j 0 = xs.getD (j + i) 0 := by
  have hl : j < (rotL xs i).length := by rw [rotL_length]; omega
  rw [getD_at hl, getD_at h]
  simp only [rotL]
  rw [List.getElem_append_left (by simp; omega), List.getElem_drop]
  congr 1; omega
theorem rotL_high {xs : List Int} {i j : Nat} (hi : i ≤ xs.length) (hj : j < xs.length) (h : xs.length ≤ j + i) : (rotL xs i).getD j 0 = xs.getD (j + i - xs.length) 0 := by
  have hl : j < (rotL xs i).length := by rw [rotL_length]; omega
  rw [getD_at hl, getD_at (by omega)]
  simp only [rotL]
  rw [List.getElem_append_right (by simp; omega), List.getElem_take]
  congr 1; simp; omega
theorem rotL_mem {xs : List Int} {i : Nat} {v : Int} : v ∈ rotL xs i ↔ v ∈ xs := by
  unfold rotL
  rw [List.mem_append]
  constructor
  · rintro (h | h)
    · exact List.mem_of_mem_drop h
    · exact List.mem_of_mem_take h
  · intro h
    rw [← List.take_append_drop i xs, List.mem_append] at h
    exact h.symm
theorem rotL_nodup {xs : List Int} {i : Nat} (h : xs.Nodup) : (rotL xs i).Nodup := by
  unfold rotL
  rw [List.perm_append_comm.nodup_iff, List.take_append_drop]
  exact h
theorem rotL_rank_out {xs : List Int} (h : IsP xs) (i : Nat) {v : Int} (hv : v < 0 ∨ (xs.length : Int) ≤ v) : rk (rotL xs i) v = -1 :=
  rk_miss fun hm => by have := h.mem (rotL_mem.1 hm); omega
/-- The rank in the rotated order: back by i, modulo n. -/
theorem rotL_rank {xs : List Int} (h : IsP xs) {i r : Nat} (hi : i ≤ xs.length) (hr : r < xs.length) :
    rk (rotL xs i) (xs.getD r 0) = if (r : Int) - i < 0 then (r : Int) - i + xs.length else (r : Int) - i := by
  by_cases hc : r < i
  · have e := rotL_high (xs := xs) (i := i) (j := r + xs.length - i) hi (by omega) (by omega)
    rw [show r + xs.length - i + i - xs.length = r by omega] at e
    rw [if_pos (by omega), ← e, rk_at (rotL_nodup h.1) (by rw [rotL_length]; omega)]
    omega
  · have e := rotL_low (xs := xs) (i := i) (j := r - i) (by omega)
    rw [show r - i + i = r by omega] at e
    rw [if_neg (by omega), ← e, rk_at (rotL_nodup h.1) (by rw [rotL_length]; omega)]
    omega

/-! ### The inverse -/
def inv (xs : List Int) : List Int := (List.range xs.length).map fun i : Nat => rk xs (i : Int)
theorem inv_length (xs : List Int) : (inv xs).length = xs.length := by simp [inv]
theorem inv_at {xs : List Int} {k : Nat} (hk : k < xs.length) : (inv xs).getD k 0 = rk xs (k : Int) := by
  rw [getD_at (by rw [inv_length]; exact hk)]; simp [inv]
theorem inv_nodup {xs : List Int} (h : IsP xs) : (inv xs).Nodup := by
  rw [List.Nodup, List.pairwise_iff_getElem]
  intro a b ha hb hab e
  rw [inv_length] at ha hb
  rw [← getD_at (by rw [inv_length]; exact ha), ← getD_at (by rw [inv_length]; exact hb), inv_at ha, inv_at hb] at e
  obtain ⟨p, _, hp, hpa⟩ := h.rank (v := (a : Int)) (by omega) (by omega)
  obtain ⟨q, _, hq, hqb⟩ := h.rank (v := (b : Int)) (by omega) (by omega)
  rw [hp, hq] at e
  have : p = q := by omega
  subst this
  omega
/-- Ranking by the ranks gives the order back. -/
theorem inv_rank {xs : List Int} (h : IsP xs) {j : Nat} (hj : j < xs.length) : rk (inv xs) (j : Int) = xs.getD j 0 := by
  obtain ⟨b0, b1⟩ := h.2 j hj
  obtain ⟨c, hc⟩ := Int.eq_ofNat_of_zero_le b0
  have hcl : c < xs.length := by omega
  have e : (inv xs).getD c 0 = (j : Int) := by rw [inv_at hcl, ← hc, rk_at h.1 hj]
  rw [hc, ← e, rk_at (inv_nodup h) (by rw [inv_length]; exact hcl)]
theorem inv_out {xs : List Int} (h : IsP xs) : rk (inv xs) (xs.length : Int) = -1 := by
  refine rk_none fun j hj => ?_
  rw [inv_length] at hj
  rw [inv_at hj]
  obtain ⟨p, hp, e, _⟩ := h.rank (v := (j : Int)) (by omega) (by omega)
  rw [e]; omega
end Go.Proofs.Qxb6613281a
