/- The walk of FnRankInverseRoundTrip. -/
import Derived.Test.Qxb6613281aCopy
import Derived.Deep.RegionWith
namespace Go.Proofs.Qxb6613281a
open Go.RowKit

/-- Longer than 1<<20: the bound says no. -/
theorem inv_great (a : Option Addr) (n cap : Nat) (w : World) (h : (1048576 : Int) < (n : Int)) :
    Calls Try.prog 4 #[.slice a n cap] w fun e w' => e = .returned (.bool true) ∧ Below w.heap.size w w' := by
  go_enter Try.func4, Try.ntmps4
  go_wp2_with (go_at_call 8; refine (great8 _ _ _ _ h).mono ?_; rintro e w' ⟨rfl, rfl⟩)
  go_ret
  exact ⟨rfl, Below.refl _ _⟩
/-- Longer than 1<<12. -/
theorem inv_long (a : Option Addr) (n cap : Nat) (w : World) (h : (4096 : Int) < (n : Int)) (h2 : (n : Int) ≤ 1048576) :
    Calls Try.prog 4 #[.slice a n cap] w fun e w' => e = .returned (.bool true) ∧ Below w.heap.size w w' := by
  go_enter Try.func4, Try.ntmps4
  go_wp2_with (go_at_call 8; refine (small8 _ _ _ _ h2).mono ?_; rintro e w' ⟨rfl, rfl⟩)
  go_ret
  exact ⟨rfl, Below.refl _ _⟩

theorem Blk.drew {w : World} {g : Nat} {e : TypeId} {L : List Value} (h : Blk w g e L) : Blk w.drew g e L := h

set_option maxHeartbeats 400000 in
/-- The slice not nil. -/
theorem inv_some (x : Addr) (n cap : Nat) (xs : List Int) (w : World) (hn : Hid (n = xs.length)) (hs : Hid (Sl w (some x) xs)) (hl : (n : Int) ≤ 4096) :
    Calls Try.prog 4 #[.slice (some x) n cap] w fun e w' => e = .returned (.bool true) ∧ Below w.heap.size w w' := by
  have hne := fun w => run_neq_slice_nil_any (P := Try.prog) w 22 3 (some x) n cap 0 0 Try.underlying22
  go_enter Try.func4, Try.ntmps4
  go_wp2_with (go_at_call 8; refine (small8 _ _ _ _ (by omega)).mono ?_; rintro e w' ⟨rfl, rfl⟩)
  refine (isPerm_any _ n _ xs _ hn.out hs.out (by omega)).mono ?_
  rintro e w3 ⟨⟨r, rfl, hP⟩, hb3⟩
  cases r
  · go_wp2
    go_ret
    exact ⟨rfl, hb3⟩
  · have HP : Hid (IsP xs) := hP rfl
    clear hP
    go_wp2_with (first | (at_make; refine wpList_make_blk _ rfl (.tmp 21) (.tmp 21) 22 rfl 3 (.int .i64 0) 8 Try.underlying22 Try.info3 rfl _ _ _ _ n rfl rfl (by omega) (by omega) (by omega) (by unfold maxLen; omega) ?_; intro w1 hblk hbel hlt; obtain ⟨w2, hcp, hb2, hbb⟩ := copy_eq w1 (some x) w3.heap.size n cap xs hn.out ((hs.out.below hb3).below hbel) hblk.out; have HB2 : Hid (Blk w2 w3.heap.size 3 (ints xs)) := hb2; have HBB : Hid (∀ B, B ≤ w3.heap.size → Below B w1 w2) := hbb; clear hb2 hbb hblk) | (at_make; refine wpList_make_blk _ rfl (.tmp 29) (.tmp 29) 22 rfl 3 (.int .i64 0) 8 Try.underlying22 Try.info3 rfl _ _ _ _ n rfl rfl (by omega) (by omega) (by omega) (by unfold maxLen; omega) ?_; intro w4 hblk4 hbel4 hlt4))
    have hb2 : Below w.heap.size w w2 := below_trans hb3 (hbel.trans (HBB.out _ (Nat.le_refl _))) hb3.size
    have hlt2 : w3.heap.size < w2.heap.size := HB2.out.lt
    have hle3 := hb3.size
    clear hbel HBB hcp hlt hb3
    go_loopw [6] (fun j wr => ∃ t : Nat, t ≤ n ∧ j = .int .i64 t ∧ Hid (Blk wr w2.heap.size 3 (ints (part (inv xs) t))) ∧ Hid (Below w2.heap.size w2 wr)) (fun j _ => n - (intOf j).toNat)
    case atStart =>
      refine ⟨0, Nat.zero_le _, rfl, ?_, hbel4⟩
      show Blk w4 w2.heap.size 3 (ints (part (inv xs) 0))
      rw [part_zero, inv_length, ← hn.out, ints_zero]; exact hblk4.out
    case round =>
      clear hblk4 hbel4 hlt4
      obtain ⟨t, ht, rfl, HR, HBW⟩ := hrel
      have HC : Hid (Blk wr w3.heap.size 3 (ints xs)) := HB2.out.below HBW.out hlt2
      have hltc : w3.heap.size < wr.heap.size := HC.out.lt
      have hltq : w2.heap.size < wr.heap.size := HR.out.lt
      by_cases hlt : t < n
      · have hft : wr.frozen? ⟨w2.heap.size, t, none⟩ = false := HR.out.free t
        obtain ⟨y, hct⟩ : ∃ y, wr.cell? ⟨w2.heap.size, t, none⟩ = some y := ⟨_, HR.out.int (by rw [part_length (by rw [inv_length, ← hn.out]; omega), inv_length, ← hn.out]; exact hlt)⟩
        have hN := hn.out
        obtain ⟨r, hr, e1, hrk⟩ := HP.out.rank (v := (t : Int)) (by omega) (by omega)
        have hcr := HC.out.int hr
        rw [hrk] at hcr
        rw [← hN] at hr
        have E1 : Hid (rk xs (t : Int) = (r : Int)) := e1
        have hcall := rank_any (some ⟨w3.heap.size, 0, none⟩) n n xs (t : Int) wr hN HC.out.sl (by omega)
        rw [e1] at hcall
        clear hN hrk e1
        go_wp2_with fail
        refine hcall.mono ?_
        clear hcall
        rintro e w5 ⟨rfl, c5, t5, rfl⟩
        go_wp2
        go_roundw
        case rel =>
          have hN := hn.out
          refine ⟨t + 1, by omega, by go_num, ?_, ((HBW.out.setCell (Nat.le_refl _) _).alloc (by simp; omega) _)⟩
          show Blk _ w2.heap.size 3 (ints (part (inv xs) (t + 1)))
          rw [← part_succ (by rw [inv_length]; omega), inv_at (by omega), E1.out, ← ints_set]
          exact (HR.out.set t _).below ((Below.refl _ _).alloc (Nat.le_refl _) _) (by simpa using hltq)
        case measure => simp [intOf]; omega
      · have htn : t = n := by omega
        have HR2 : Hid (Blk wr w2.heap.size 3 (ints (inv xs))) := by
          have h := HR.out
          rw [htn, hn.out, ← inv_length xs, part_full] at h
          exact h
        clear HR htn HC hltc hltq
        go_wp2
        go_loopw [8] (fun j wr => ∃ (t : Nat) (v : World), v = wr ∧ t ≤ n ∧ j = .int .i64 t ∧ Hid (Blk v w2.heap.size 3 (ints (inv xs))) ∧ Hid (Below w2.heap.size w2 v)) (fun j _ => n - (intOf j).toNat)
        case atStart => exact ⟨0, _, rfl, Nat.zero_le _, rfl, HR2, HBW⟩
        case round =>
          clear HR2 HBW
          obtain ⟨t, v, rfl, ht, rfl, HR, HBW⟩ := hrel
          have HC : Hid (Blk v w3.heap.size 3 (ints xs)) := HB2.out.below HBW.out hlt2
          have hltc : w3.heap.size < v.heap.size := HC.out.lt
          have hltq : w2.heap.size < v.heap.size := HR.out.lt
          by_cases hlt : t < n
          · have hN := hn.out
            have hcx := HC.out.int (j := t) (by omega)
            have hrk := inv_rank HP.out (j := t) (by omega)
            obtain ⟨y, hy⟩ : ∃ y, y = xs.getD t 0 := ⟨_, rfl⟩
            rw [← hy] at hcx hrk
            have hcall : Calls Try.prog 7 #[.slice (some ⟨w2.heap.size, 0, none⟩) n n, .int .i64 (t : Int)] v.drew fun e w' => e = .returned (.int .i64 y) ∧ ∃ (c : Array Value) (t : TypeId), w' = (v.alloc (.cells c t)).drew := by
              rw [← hrk]
              exact rank_any _ n _ (inv xs) _ _ (by rw [inv_length]; exact hN) HR.out.drew.sl (by omega)
            clear hy hN hrk
            go_wp2
            go_region_with (go_at_call 7; refine hcall.mono ?_; rintro e w5 ⟨rfl, c5, t5, rfl⟩)
            all_goals
              go_wp2
              go_roundw
              case rel => exact ⟨t + 1, _, rfl, by omega, by go_num, (HR.out.below ((Below.refl _ _).alloc (Nat.le_refl _) _) hltq).drew, (HBW.out.alloc (by omega) _).drew⟩
              case measure => simp [intOf]; omega
          · have hN := hn.out
            have h1 := inv_out HP.out
            rw [← hN] at h1
            have hcq := rank_any (some ⟨w2.heap.size, 0, none⟩) n n (inv xs) (n : Int) v (by rw [inv_length]; exact hN) HR.out.sl (by omega)
            rw [h1] at hcq
            clear h1 hN
            go_wp2_with fail
            refine hcq.mono ?_
            clear hcq
            rintro e w5 ⟨rfl, c5, t5, rfl⟩
            have hcc := rank_any (some ⟨w3.heap.size, 0, none⟩) n n xs (-1) (v.alloc (.cells c5 t5)) hn.out (HC.out.sl.below ((Below.refl _ _).alloc (Nat.le_refl _) _)) (by omega)
            rw [HP.out.rank_out (.inl (by omega))] at hcc
            go_wp2_with fail
            refine hcc.mono ?_
            clear hcc
            rintro e w6 ⟨rfl, c6, t6, rfl⟩
            go_wp2
            go_ret
            exact ⟨rfl, ((hb2.trans (HBW.out.mono (by omega))).alloc (by omega) _).alloc (by simp; omega) _⟩

/-- The nil slice. -/
theorem inv_nil (w : World) :
    Calls Try.prog 4 #[.slice none 0 0] w fun e w' => e = .returned (.bool true) ∧ Below w.heap.size w w' := by
  have hne := fun w => run_neq_slice_nil_any (P := Try.prog) w 22 3 none 0 0 0 0 Try.underlying22
  have e1 : ∀ k, rk [] k = -1 := fun k => rk_miss (by simp)
  have hcall := fun (a : Option Addr) (v : Int) (u : World) => rank_any a 0 0 [] v u rfl (Sl.nil _ _) (by omega)
  simp only [e1] at hcall
  have HCALL : Hid (∀ (a : Option Addr) (v : Int) (u : World), Calls Try.prog 7 #[.slice a 0 0, .int .i64 v] u fun e w' => e = .returned (.int .i64 (-1)) ∧ ∃ (c : Array Value) (t : TypeId), w' = u.alloc (.cells c t)) := hcall
  clear hcall e1
  go_enter Try.func4, Try.ntmps4
  go_wp2_with (go_at_call 8; refine (small8 _ _ _ _ (by omega)).mono ?_; rintro e w' ⟨rfl, rfl⟩)
  refine (isPerm_nil none 0 _).mono ?_
  rintro e w3 ⟨rfl, hb3⟩
  go_wp2_with (at_make; refine wpList_make_blk _ rfl (.tmp 29) (.tmp 29) 22 rfl 3 (.int .i64 0) 8 Try.underlying22 Try.info3 rfl _ _ _ _ 0 rfl rfl (by omega) (by omega) (by omega) (by unfold maxLen; omega) ?_; intro w4 hblk4 hbel4 hlt4)
  go_loop [6] (fun i => i = .int .i64 0) (fun _ => 0)
  case atStart => rfl
  case round =>
    subst hrel
    go_wp2
    go_loop [8] (fun i => i = .int .i64 0) (fun _ => 0)
    case atStart => rfl
    case round =>
      subst hrel
      go_wp2_with fail
      refine (HCALL.out _ _ _).mono ?_
      rintro e w5 ⟨rfl, c5, t5, rfl⟩
      go_wp2_with fail
      refine (HCALL.out _ _ _).mono ?_
      rintro e w6 ⟨rfl, c6, t6, rfl⟩
      have hend : Below w.heap.size w ((w4.alloc (.cells c5 t5)).alloc (.cells c6 t6)) := by
        have h1 := hb3.size
        have h2 := hbel4.size
        exact (((below_trans hb3 hbel4 h1).alloc (by omega) _).alloc (by simp; omega) _)
      go_wp2
      go_ret
      exact ⟨rfl, hend⟩

/-- Every slice of ints that came in. -/
theorem inv_any (a : Option Addr) (n cap : Nat) (xs : List Int) (w : World) (hn : n = xs.length) (hnil : a = none → n = 0 ∧ cap = 0) (hs : Sl w a xs) :
    Calls Try.prog 4 #[.slice a n cap] w fun e w' => e = .returned (.bool true) ∧ Below w.heap.size w w' := by
  by_cases h1 : (1048576 : Int) < (n : Int)
  · exact inv_great a n cap w h1
  by_cases h2 : (4096 : Int) < (n : Int)
  · exact inv_long a n cap w h2 (by omega)
  cases a with
  | none =>
    obtain ⟨rfl, rfl⟩ := hnil rfl
    exact inv_nil w
  | some x => exact inv_some x n cap xs w hn hs (by omega)
end Go.Proofs.Qxb6613281a
