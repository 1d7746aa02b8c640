/- The plain mathematics of a counter's script: lists of numbers and sums modulo 2^64, no Go in sight. -/
import Derived.Laws.Bits64
namespace Go.Proofs.Qxb6613330a

theorem getD_at {xs : List Int} {k : Nat} (hk : k < xs.length) : xs.getD k 0 = xs[k] := by
  rw [List.getD_eq_getElem?_getD, List.getElem?_eq_getElem hk]; rfl

/-- The counts behind the script's first t adds. -/
def acc (K : Nat) (is as : List Int) : Nat → List Int
  | 0 => List.replicate K 0
  | t + 1 => (acc K is as t).set (is.getD t 0).toNat (IntKind.u64.wrap ((acc K is as t).getD (is.getD t 0).toNat 0 + as.getD t 0))
/-- The sum of the first t amounts. -/
def tot (as : List Int) : Nat → Int
  | 0 => 0
  | t + 1 => IntKind.u64.wrap (tot as t + as.getD t 0)
/-- The sum of the first j counts. -/
def psum (L : List Int) : Nat → Int
  | 0 => 0
  | j + 1 => IntKind.u64.wrap (psum L j + L.getD j 0)

theorem acc_length (K : Nat) (is as : List Int) (t : Nat) : (acc K is as t).length = K := by
  induction t with
  | zero => simp [acc]
  | succ t ih => simp [acc, ih]

def tsum : List Int → Int
  | [] => 0
  | x :: xs => x + tsum xs
theorem tsum_zeros (K : Nat) : tsum (List.replicate K 0) = 0 := by
  induction K with
  | zero => rfl
  | succ K ih => simp [List.replicate_succ, tsum, ih]
theorem tsum_set (L : List Int) (u : Nat) (v : Int) (h : u < L.length) : tsum (L.set u v) = tsum L - L.getD u 0 + v := by
  induction L generalizing u with
  | nil => simp at h
  | cons x xs ih =>
    cases u with
    | zero => simp [tsum]; omega
    | succ u =>
      have := ih u (by simpa using h)
      rw [List.set_cons_succ, tsum, this, tsum, List.getD_cons_succ]; omega
theorem tsum_snoc (L : List Int) (x : Int) : tsum (L ++ [x]) = tsum L + x := by
  induction L with
  | nil => simp [tsum]
  | cons y ys ih => simp [tsum, ih]; omega

theorem psum_eq (L : List Int) (j : Nat) (h : j ≤ L.length) : psum L j = tsum (L.take j) % 18446744073709551616 := by
  induction j with
  | zero => simp [psum, tsum]
  | succ j ih =>
    rw [psum, ih (by omega), IntKind.wrap_u64, List.take_succ_eq_append_getElem (by omega), tsum_snoc, getD_at (by omega)]
    omega
theorem tot_eq (K : Nat) (is as : List Int) (t : Nat) (h : ∀ j, j < t → 0 ≤ is.getD j 0 ∧ is.getD j 0 < K) : tot as t = tsum (acc K is as t) % 18446744073709551616 := by
  induction t with
  | zero => simp [tot, acc, tsum_zeros]
  | succ t ih =>
    obtain ⟨h0, h1⟩ := h t (by omega)
    rw [tot, ih (fun j hj => h j (by omega)), IntKind.wrap_u64, acc, tsum_set _ _ _ (by rw [acc_length]; omega), IntKind.wrap_u64]
    omega
/-- The counts add up to the sum of all amounts. -/
theorem sums (K : Nat) (is as : List Int) (t : Nat) (h : ∀ j, j < t → 0 ≤ is.getD j 0 ∧ is.getD j 0 < K) : psum (acc K is as t) K = tot as t := by
  rw [tot_eq K is as t h, psum_eq _ _ (by rw [acc_length]; exact Nat.le_refl _), List.take_of_length_le (by rw [acc_length]; exact Nat.le_refl _)]
end Go.Proofs.Qxb6613330a
