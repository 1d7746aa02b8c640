/- The walk of FnRankFollowsRotation. -/
import Derived.Test.Qxb6613281aCopy
namespace Go.Proofs.Qxb6613281a
open Go.RowKit

/-- Longer than 1<<20: the bound says no. -/
theorem rot_great (a : Option Addr) (n cap : Nat) (i k : Int) (w : World) (h : (1048576 : Int) < (n : Int)) :
    Calls Try.prog 3 #[.slice a n cap, .int .i64 i, .int .i64 k] w fun e w' => e = .returned (.bool true) ∧ Below w.heap.size w w' := by
  go_enter Try.func3, Try.ntmps3
  go_wp2_with (go_at_call 5; refine (great5 _ _ _ _ _ _ h).mono ?_; rintro e w' ⟨rfl, rfl⟩)
  go_ret
  exact ⟨rfl, Below.refl _ _⟩
/-- Longer than 1<<16. -/
theorem rot_long (a : Option Addr) (n cap : Nat) (i k : Int) (w : World) (h : (65536 : Int) < (n : Int)) (h2 : (n : Int) ≤ 1048576) :
    Calls Try.prog 3 #[.slice a n cap, .int .i64 i, .int .i64 k] w fun e w' => e = .returned (.bool true) ∧ Below w.heap.size w w' := by
  go_enter Try.func3, Try.ntmps3
  go_wp2_with (go_at_call 5; refine (small5 _ _ _ _ _ _ h2).mono ?_; rintro e w' ⟨rfl, rfl⟩)
  go_ret
  exact ⟨rfl, Below.refl _ _⟩

/-- The cut lies outside 0 .. n: the slice not nil. -/
theorem rot_out (x : Addr) (n cap : Nat) (xs : List Int) (i k : Int) (w : World) (hn : Hid (n = xs.length)) (hs : Hid (Sl w (some x) xs)) (hl : (n : Int) ≤ 65536) (hi : i < 0 ∨ (n : Int) < i) :
    Calls Try.prog 3 #[.slice (some x) n cap, .int .i64 i, .int .i64 k] w fun e w' => e = .returned (.bool true) ∧ Below w.heap.size w w' := by
  have hne := fun w => run_neq_slice_nil_any (P := Try.prog) w 22 3 (some x) n cap 0 0 Try.underlying22
  rcases hi with hi | hi
  · go_enter Try.func3, Try.ntmps3
    go_wp2_with (first | (go_at_call 5; refine (small5 _ _ _ _ _ _ (by omega)).mono ?_; rintro e w' ⟨rfl, rfl⟩) | (at_make; refine wpList_make_blk _ rfl (.tmp 26) (.tmp 26) 22 rfl 3 (.int .i64 0) 8 Try.underlying22 Try.info3 rfl _ _ _ _ n rfl rfl (by omega) (by omega) (by omega) (by unfold maxLen; omega) ?_; intro w1 hblk hbel hlt; obtain ⟨w2, hcp, hb2, hbb⟩ := copy_eq w1 (some x) w.heap.size n cap xs hn.out (hs.out.below hbel) hblk.out; have HB2 : Hid (Blk w2 w.heap.size 3 (ints xs)) := hb2; have HBB : Hid (∀ B, B ≤ w.heap.size → Below B w1 w2) := hbb; clear hb2 hbb hblk))
    go_ret
    exact ⟨rfl, hbel.trans (HBB.out _ (Nat.le_refl _))⟩
  · have hi0 : ¬ i < 0 := by omega
    go_enter Try.func3, Try.ntmps3
    go_wp2_with (first | (go_at_call 5; refine (small5 _ _ _ _ _ _ (by omega)).mono ?_; rintro e w' ⟨rfl, rfl⟩) | (at_make; refine wpList_make_blk _ rfl (.tmp 26) (.tmp 26) 22 rfl 3 (.int .i64 0) 8 Try.underlying22 Try.info3 rfl _ _ _ _ n rfl rfl (by omega) (by omega) (by omega) (by unfold maxLen; omega) ?_; intro w1 hblk hbel hlt; obtain ⟨w2, hcp, hb2, hbb⟩ := copy_eq w1 (some x) w.heap.size n cap xs hn.out (hs.out.below hbel) hblk.out; have HB2 : Hid (Blk w2 w.heap.size 3 (ints xs)) := hb2; have HBB : Hid (∀ B, B ≤ w.heap.size → Below B w1 w2) := hbb; clear hb2 hbb hblk))
    go_ret
    exact ⟨rfl, hbel.trans (HBB.out _ (Nat.le_refl _))⟩

/-- The cut lies in 0 .. n: the slice not nil. -/
theorem rot_in (x : Addr) (n cap : Nat) (xs : List Int) (i : Nat) (k : Int) (w : World) (hn : Hid (n = xs.length)) (hs : Hid (Sl w (some x) xs)) (hl : (n : Int) ≤ 65536) (hi : i ≤ n) :
    Calls Try.prog 3 #[.slice (some x) n cap, .int .i64 i, .int .i64 k] w fun e w' => e = .returned (.bool true) ∧ Below w.heap.size w w' := by
  have hne := fun w => run_neq_slice_nil_any (P := Try.prog) w 22 3 (some x) n cap 0 0 Try.underlying22
  go_enter Try.func3, Try.ntmps3
  go_wp2_with (first | (go_at_call 5; refine (small5 _ _ _ _ _ _ (by omega)).mono ?_; rintro e w' ⟨rfl, rfl⟩) | (at_make; refine wpList_make_blk _ rfl (.tmp 26) (.tmp 26) 22 rfl 3 (.int .i64 0) 8 Try.underlying22 Try.info3 rfl _ _ _ _ n rfl rfl (by omega) (by omega) (by omega) (by unfold maxLen; omega) ?_; intro w1 hblk hbel hlt; obtain ⟨w2, hcp, hb2, hbb⟩ := copy_eq w1 (some x) w.heap.size n cap xs hn.out (hs.out.below hbel) hblk.out; have HB2 : Hid (Blk w2 w.heap.size 3 (ints xs)) := hb2; have HBB : Hid (∀ B, B ≤ w.heap.size → Below B w1 w2) := hbb; clear hb2 hbb hblk))
  have hb2 : Below w.heap.size w w2 := hbel.trans (HBB.out _ (Nat.le_refl _))
  have hlt2 : w.heap.size < w2.heap.size := HB2.out.lt
  clear hbel HBB hcp hlt
  refine (isPerm_any _ n _ xs _ hn.out HB2.out.sl (by omega)).mono ?_
  rintro e w3 ⟨⟨r, rfl, hP⟩, hb3⟩
  cases r
  · go_wp2
    go_ret
    exact ⟨rfl, below_trans hb2 hb3 (by omega)⟩
  · have HP : Hid (IsP xs) := hP rfl
    have HB3 : Hid (Blk w3 w.heap.size 3 (ints xs)) := HB2.out.below hb3 hlt2
    have hbw3 : Below w.heap.size w w3 := below_trans hb2 hb3 (by omega)
    have hlt3 : w.heap.size < w3.heap.size := HB3.out.lt
    clear hP hb3 hb2 HB2 hlt2
    go_wp2_with (at_make; refine wpList_make_blk _ rfl (.tmp 44) (.tmp 44) 22 rfl 3 (.int .i64 0) 8 Try.underlying22 Try.info3 rfl _ _ _ _ n rfl rfl (by omega) (by omega) (by omega) (by unfold maxLen; omega) ?_; intro w4 hblk4 hbel4 hlt4)
    go_loopw [10] (fun j wr => ∃ t : Nat, t ≤ n ∧ j = .int .i64 t ∧ Hid (Blk wr w3.heap.size 3 (ints (part (rotL xs i) t))) ∧ Hid (Below w3.heap.size w3 wr)) (fun j _ => n - (intOf j).toNat)
    case atStart =>
      refine ⟨0, Nat.zero_le _, rfl, ?_, hbel4⟩
      show Blk w4 w3.heap.size 3 (ints (part (rotL xs i) 0))
      rw [part_zero, rotL_length, ← hn.out, ints_zero]; exact hblk4.out
    case round =>
      clear hblk4 hbel4 hlt4
      obtain ⟨t, ht, rfl, HR, HBW⟩ := hrel
      have HC : Hid (Blk wr w.heap.size 3 (ints xs)) := HB3.out.below HBW.out hlt3
      by_cases hlt : t < n
      · have hft : wr.frozen? ⟨w3.heap.size, t, none⟩ = false := HR.out.free t
        obtain ⟨y, hct⟩ : ∃ y, wr.cell? ⟨w3.heap.size, t, none⟩ = some y := ⟨_, HR.out.int (by rw [part_length (by rw [rotL_length, ← hn.out]; omega), rotL_length, ← hn.out]; exact hlt)⟩
        by_cases hsrc : t + i < n
        · have hcs : wr.cell? ⟨w.heap.size, t + i, none⟩ = some (.int .i64 ((rotL xs i).getD t 0)) := by
            rw [rotL_low (by rw [← hn.out]; exact hsrc)]; exact HC.out.int (by rw [← hn.out]; exact hsrc)
          obtain ⟨v, hv⟩ : ∃ v, v = (rotL xs i).getD t 0 := ⟨_, rfl⟩
          rw [← hv] at hcs
          have HV : Hid (v = (rotL xs i).getD t 0) := hv
          clear hv
          go_wp2
          go_roundw
          case rel =>
            refine ⟨t + 1, by omega, by go_num, ?_, HBW.out.setCell (Nat.le_refl _) _⟩
            show Blk _ w3.heap.size 3 (ints (part (rotL xs i) (t + 1)))
            rw [← part_succ (by rw [rotL_length, ← hn.out]; exact hlt), ← HV.out, ← ints_set]
            exact HR.out.set t _
          case measure => simp [intOf]; omega
        · have hcs : wr.cell? ⟨w.heap.size, t + i - n, none⟩ = some (.int .i64 ((rotL xs i).getD t 0)) := by
            have hN := hn.out
            rw [rotL_high (by omega) (by omega) (by omega), ← hN]; exact HC.out.int (by omega)
          obtain ⟨v, hv⟩ : ∃ v, v = (rotL xs i).getD t 0 := ⟨_, rfl⟩
          rw [← hv] at hcs
          have HV : Hid (v = (rotL xs i).getD t 0) := hv
          clear hv
          go_wp2
          go_roundw
          case rel =>
            refine ⟨t + 1, by omega, by go_num, ?_, HBW.out.setCell (Nat.le_refl _) _⟩
            show Blk _ w3.heap.size 3 (ints (part (rotL xs i) (t + 1)))
            rw [← part_succ (by rw [rotL_length, ← hn.out]; exact hlt), ← HV.out, ← ints_set]
            exact HR.out.set t _
          case measure => simp [intOf]; omega
      · have htn : t = n := by omega
        have HR2 : Hid (Blk wr w3.heap.size 3 (ints (rotL xs i))) := by
          have h := HR.out
          rw [htn, hn.out, ← rotL_length xs i, part_full] at h
          exact h
        have hbr : Below w.heap.size w wr := hbw3.trans (HBW.out.mono (by omega))
        have hltr : w.heap.size < wr.heap.size := HC.out.lt
        clear HR htn
        go_wp2_with fail
        refine (rank_any _ n _ xs k _ hn.out HC.out.sl (by omega)).mono ?_
        rintro e w5 ⟨rfl, c5, t5, rfl⟩
        go_wp2_with fail
        refine (rank_any _ n _ (rotL xs i) k _ (by rw [rotL_length]; exact hn.out) (HR2.out.sl.below ((Below.refl _ _).alloc (Nat.le_refl _) _)) (by omega)).mono ?_
        rintro e w6 ⟨rfl, c6, t6, rfl⟩
        have hend : Below w.heap.size w ((wr.alloc (.cells c5 t5)).alloc (.cells c6 t6)) := (hbr.alloc (by omega) _).alloc (by simp; omega) _
        by_cases hk0 : k < 0
        · have e1 : rk xs k = -1 := HP.out.rank_out (.inl hk0)
          have e2 : rk (rotL xs i) k = -1 := rotL_rank_out HP.out i (.inl hk0)
          go_wp2
          go_ret
          exact ⟨rfl, hend⟩
        by_cases hkn : (n : Int) ≤ k
        · have e1 : rk xs k = -1 := HP.out.rank_out (.inr (by rw [← hn.out]; exact hkn))
          have e2 : rk (rotL xs i) k = -1 := rotL_rank_out HP.out i (.inr (by rw [← hn.out]; exact hkn))
          go_wp2
          go_ret
          exact ⟨rfl, hend⟩
        have hN := hn.out
        obtain ⟨r, hr, e1, hrk⟩ := HP.out.rank (v := k) (by omega) (by omega)
        have e2 := rotL_rank HP.out (i := i) (r := r) (by omega) hr
        rw [hrk, ← hN] at e2
        have hcr := HC.out.int hr
        rw [hrk] at hcr
        rw [← hN] at hr
        clear hN hrk
        by_cases hri : r < i
        · rw [if_pos (by omega)] at e2
          go_wp2
          go_ret
          exact ⟨rfl, hend⟩
        · rw [if_neg (by omega)] at e2
          go_wp2
          go_ret
          exact ⟨rfl, hend⟩
/-- The nil slice. -/
theorem rot_nil (i k : Int) (w : World) :
    Calls Try.prog 3 #[.slice none 0 0, .int .i64 i, .int .i64 k] w fun e w' => e = .returned (.bool true) ∧ Below w.heap.size w w' := by
  have hne := fun w => run_neq_slice_nil_any (P := Try.prog) w 22 3 none 0 0 0 0 Try.underlying22
  by_cases hi : i < 0
  · go_enter Try.func3, Try.ntmps3
    go_wp2_with (go_at_call 5; refine (small5 _ _ _ _ _ _ (by omega)).mono ?_; rintro e w' ⟨rfl, rfl⟩)
    go_ret
    exact ⟨rfl, Below.refl _ _⟩
  by_cases hi2 : 0 < i
  · go_enter Try.func3, Try.ntmps3
    go_wp2_with (go_at_call 5; refine (small5 _ _ _ _ _ _ (by omega)).mono ?_; rintro e w' ⟨rfl, rfl⟩)
    go_ret
    exact ⟨rfl, Below.refl _ _⟩
  obtain rfl : i = 0 := by omega
  clear hi hi2
  go_enter Try.func3, Try.ntmps3
  go_wp2_with (go_at_call 5; refine (small5 _ _ _ _ _ _ (by omega)).mono ?_; rintro e w' ⟨rfl, rfl⟩)
  refine (isPerm_nil none 0 _).mono ?_
  rintro e w3 ⟨rfl, hb3⟩
  go_wp2_with (at_make; refine wpList_make_blk _ rfl (.tmp 44) (.tmp 44) 22 rfl 3 (.int .i64 0) 8 Try.underlying22 Try.info3 rfl _ _ _ _ 0 rfl rfl (by omega) (by omega) (by omega) (by unfold maxLen; omega) ?_; intro w4 hblk4 hbel4 hlt4)
  go_loop [10] (fun i => i = .int .i64 0) (fun _ => 0)
  case atStart => rfl
  case round =>
    subst hrel
    go_wp2_with fail
    refine (rank_any _ 0 _ [] k _ rfl (Sl.nil _ _) (by omega)).mono ?_
    rintro e w5 ⟨rfl, c5, t5, rfl⟩
    go_wp2_with fail
    refine (rank_any _ 0 _ [] k _ rfl (Sl.nil _ _) (by omega)).mono ?_
    rintro e w6 ⟨rfl, c6, t6, rfl⟩
    have e1 : rk [] k = -1 := rk_miss (by simp)
    have hend : Below w.heap.size w ((w4.alloc (.cells c5 t5)).alloc (.cells c6 t6)) := by
      have h1 := hb3.size
      have h2 := hbel4.size
      exact (((below_trans hb3 hbel4 h1).alloc (by omega) _).alloc (by simp; omega) _)
    by_cases hk : k < 0
    · go_wp2
      go_ret
      exact ⟨rfl, hend⟩
    · go_wp2
      go_ret
      exact ⟨rfl, hend⟩

/-- Every slice of ints that came in. -/
theorem rot_any (a : Option Addr) (n cap : Nat) (xs : List Int) (i k : Int) (w : World) (hn : n = xs.length) (hnil : a = none → n = 0 ∧ cap = 0) (hs : Sl w a xs) :
    Calls Try.prog 3 #[.slice a n cap, .int .i64 i, .int .i64 k] w fun e w' => e = .returned (.bool true) ∧ Below w.heap.size w w' := by
  by_cases h1 : (1048576 : Int) < (n : Int)
  · exact rot_great a n cap i k w h1
  by_cases h2 : (65536 : Int) < (n : Int)
  · exact rot_long a n cap i k w h2 (by omega)
  cases a with
  | none =>
    obtain ⟨rfl, rfl⟩ := hnil rfl
    exact rot_nil i k w
  | some x =>
    by_cases h3 : i < 0 ∨ (n : Int) < i
    · exact rot_out x n cap xs i k w hn hs (by omega) h3
    · obtain ⟨j, rfl⟩ := Int.eq_ofNat_of_zero_le (show 0 ≤ i by omega)
      exact rot_in x n cap xs j k w hn hs (by omega) (by omega)
end Go.Proofs.Qxb6613281a
