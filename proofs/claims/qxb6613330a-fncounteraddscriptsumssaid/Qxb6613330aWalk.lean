/- The walk of FnCounterAddScriptSums. -/
import Derived.Test.Qxb6613330aCalls
import Derived.RegionTactic
import Derived.Deep.RegionWith
namespace Go.Proofs.Qxb6613330a
open Go.RowKit

/-- One add of the script. -/
theorem acc_step {K : Nat} {ix am : List Int} {t u : Nat} {y z : Int} (hu : ix.getD t 0 = (u : Int)) (hy : y = am.getD t 0) (hz : z = (acc K ix am t).getD u 0) :
    (words (acc K ix am t)).set u (.int .u64 (IntKind.u64.wrap (z + y))) = words (acc K ix am (t + 1)) := by
  rw [words_set, acc, hu, Int.toNat_natCast, ← hz, ← hy]
theorem tot_step {am : List Int} {t : Nat} {y : Int} (hy : y = am.getD t 0) : Value.int .u64 (IntKind.u64.wrap (tot am t + y)) = .int .u64 (tot am (t + 1)) := by
  rw [tot, ← hy]

/-- Longer than 1<<20 together. -/
theorem sum_great (k : Int) (a1 : Option Addr) (n1 c1 : Nat) (a2 : Option Addr) (n2 c2 : Nat) (w : World) (h : (1048576 : Int) < (n1 : Int) + (n2 : Int)) :
    Calls Try.prog 3 #[.int .i64 k, .slice a1 n1 c1, .slice a2 n2 c2] w fun e w' => e = .returned (.bool true) ∧ Below w.heap.size w w' := by
  go_enter Try.func3, Try.ntmps3
  go_wp2_with (go_at_call 4; refine (zz_great _ _ _ _ _ _ _ _ h).mono ?_; rintro e w' ⟨rfl, rfl⟩)
  go_ret
  exact ⟨rfl, Below.refl _ _⟩
/-- The first longer than 1<<16. -/
theorem sum_long1 (k : Int) (a1 : Option Addr) (n1 c1 : Nat) (a2 : Option Addr) (n2 c2 : Nat) (w : World) (h : (n1 : Int) + (n2 : Int) ≤ 1048576) (h1 : (65536 : Int) < (n1 : Int)) :
    Calls Try.prog 3 #[.int .i64 k, .slice a1 n1 c1, .slice a2 n2 c2] w fun e w' => e = .returned (.bool true) ∧ Below w.heap.size w w' := by
  go_enter Try.func3, Try.ntmps3
  go_wp2_with (go_at_call 4; refine (zz_small _ _ _ _ _ _ _ _ (by omega)).mono ?_; rintro e w' ⟨rfl, rfl⟩)
  go_ret
  exact ⟨rfl, Below.refl _ _⟩
/-- The second longer than 1<<16. -/
theorem sum_long2 (k : Int) (a1 : Option Addr) (n1 c1 : Nat) (a2 : Option Addr) (n2 c2 : Nat) (w : World) (h : (n1 : Int) + (n2 : Int) ≤ 1048576) (h1 : (n1 : Int) ≤ 65536) (h2 : (65536 : Int) < (n2 : Int)) :
    Calls Try.prog 3 #[.int .i64 k, .slice a1 n1 c1, .slice a2 n2 c2] w fun e w' => e = .returned (.bool true) ∧ Below w.heap.size w w' := by
  go_enter Try.func3, Try.ntmps3
  go_wp2_with (go_at_call 4; refine (zz_small _ _ _ _ _ _ _ _ (by omega)).mono ?_; rintro e w' ⟨rfl, rfl⟩)
  go_ret
  exact ⟨rfl, Below.refl _ _⟩
/-- No series. -/
theorem sum_low (k : Int) (a1 : Option Addr) (n1 c1 : Nat) (a2 : Option Addr) (n2 c2 : Nat) (w : World) (h1 : (n1 : Int) ≤ 65536) (h2 : (n2 : Int) ≤ 65536) (h3 : k < 1) :
    Calls Try.prog 3 #[.int .i64 k, .slice a1 n1 c1, .slice a2 n2 c2] w fun e w' => e = .returned (.bool true) ∧ Below w.heap.size w w' := by
  go_enter Try.func3, Try.ntmps3
  go_wp2_with (go_at_call 4; refine (zz_small _ _ _ _ _ _ _ _ (by omega)).mono ?_; rintro e w' ⟨rfl, rfl⟩)
  go_ret
  exact ⟨rfl, Below.refl _ _⟩
/-- Too many series. -/
theorem sum_high (k : Int) (a1 : Option Addr) (n1 c1 : Nat) (a2 : Option Addr) (n2 c2 : Nat) (w : World) (h1 : (n1 : Int) ≤ 65536) (h2 : (n2 : Int) ≤ 65536) (h3 : ¬ k < 1) (h4 : 65536 < k) :
    Calls Try.prog 3 #[.int .i64 k, .slice a1 n1 c1, .slice a2 n2 c2] w fun e w' => e = .returned (.bool true) ∧ Below w.heap.size w w' := by
  go_enter Try.func3, Try.ntmps3
  go_wp2_with (go_at_call 4; refine (zz_small _ _ _ _ _ _ _ _ (by omega)).mono ?_; rintro e w' ⟨rfl, rfl⟩)
  go_ret
  exact ⟨rfl, Below.refl _ _⟩

set_option maxHeartbeats 1000000 in
theorem sum_one (K n1 c1 n2 c2 : Nat) (a1 a2 : Option Addr) (ix am : List Int) (w : World) (hn1 : Hid (n1 = ix.length)) (hn2 : Hid (n2 = am.length)) (hs1 : Hid (Sl .i64 w a1 ix)) (hs2 : Hid (Sl .u64 w a2 am))
    (h1 : (n1 : Int) ≤ 65536) (h2 : (n2 : Int) ≤ 65536) (hK1 : (1 : Int) ≤ (K : Int)) (hK : (K : Int) ≤ 65536) (hm : n1 ≤ n2) :
    Calls Try.prog 3 #[.int .i64 K, .slice a1 n1 c1, .slice a2 n2 c2] w fun e w' => e = .returned (.bool true) ∧ Below w.heap.size w w' := by
  go_enter Try.func3, Try.ntmps3
  go_wp2_with (go_at_call 4; refine (zz_small _ _ _ _ _ _ _ _ (by omega)).mono ?_; rintro e w' ⟨rfl, rfl⟩)
  go_loop [8] (fun j => ∃ t : Nat, t ≤ n1 ∧ j = .int .i64 t ∧ Hid (∀ i, i < t → 0 ≤ ix.getD i 0 ∧ ix.getD i 0 < (K : Int))) (fun j => n1 - (intOf j).toNat)
  case atStart => exact ⟨0, Nat.zero_le _, rfl, fun i hi => absurd hi (by omega)⟩
  case round =>
    obtain ⟨t, ht, rfl, HI⟩ := hrel
    by_cases hlt : t < n1
    · obtain ⟨b1, o1, rfl, hb1, hc1⟩ := hs1.out (by rw [← hn1.out]; omega)
      have hcx := hc1 t (by rw [← hn1.out]; omega)
      clear hc1
      obtain ⟨x, hx⟩ : ∃ x, x = ix.getD t 0 := ⟨_, rfl⟩
      rw [← hx] at hcx
      have HX : Hid (x = ix.getD t 0) := hx
      clear hx
      by_cases hx0 : x < 0
      · go_wp2
        go_ret
        exact ⟨rfl, Below.refl _ _⟩
      by_cases hxK : (K : Int) ≤ x
      · go_wp2
        go_ret
        exact ⟨rfl, Below.refl _ _⟩
      go_wp2
      go_round
      case rel =>
        refine ⟨t + 1, by omega, by go_num, fun i hi => ?_⟩
        by_cases hit : i < t
        · exact HI.out i hit
        · obtain rfl : i = t := by omega
          rw [← HX.out]; omega
      case measure => simp [intOf]; omega
    · have HI2 : Hid (∀ i, i < n1 → 0 ≤ ix.getD i 0 ∧ ix.getD i 0 < (K : Int)) := fun i hi => HI.out i (by omega)
      clear HI
      go_wp2_with (at_make; refine wpList_make_blk _ rfl (.tmp 60) (.tmp 60) 23 rfl 25 (.int .u64 0) (.int .u64 0) 8 Try.underlying23 Try.info25 rfl _ _ _ _ K rfl rfl (by omega) (by omega) (by omega) (by unfold maxLen; omega) ?_; intro w1 hblk hbel hltw)
      go_loopw [10, 11] (fun T j wr => ∃ (t : Nat) (v : World), v = wr ∧ t ≤ n1 ∧ j = .int .i64 t ∧ T = .int .u64 (tot am t) ∧ Hid (Blk v w.heap.size 25 (words (acc K ix am t))) ∧ Hid (Below w.heap.size w v)) (fun _ j _ => n1 - (intOf j).toNat)
      case atStart =>
        refine ⟨0, _, rfl, Nat.zero_le _, rfl, rfl, ?_, hbel⟩
        show Blk w1 w.heap.size 25 (words (List.replicate K 0))
        rw [words_zero]; exact hblk.out
      case round =>
        clear hblk hbel hltw hlt
        obtain ⟨t, v, rfl, ht2, rfl, rfl, HB, HBW⟩ := hrel
        have hltv : w.heap.size < v.heap.size := HB.out.lt
        by_cases hlt : t < n1
        · obtain ⟨b1, o1, rfl, hb1, hc1⟩ := hs1.out (by rw [← hn1.out]; omega)
          obtain ⟨b2, o2, rfl, hb2, hc2⟩ := hs2.out (by rw [← hn2.out]; omega)
          obtain ⟨i0, i1⟩ := HI2.out t hlt
          obtain ⟨u, hu⟩ := Int.eq_ofNat_of_zero_le i0
          have huK : u < K := by omega
          have hcx : v.cell? ⟨b1, o1 + t, none⟩ = some (.int .i64 (u : Int)) := by rw [← hu, HBW.out.cell (p := ⟨b1, o1 + t, none⟩) hb1]; exact hc1 t (by rw [← hn1.out]; omega)
          have hcy : v.cell? ⟨b2, o2 + t, none⟩ = some (.int .u64 (am.getD t 0)) := by rw [HBW.out.cell (p := ⟨b2, o2 + t, none⟩) hb2]; exact hc2 t (by rw [← hn2.out]; omega)
          have HU : Hid (ix.getD t 0 = (u : Int)) := hu
          clear hc1 hc2 i0 i1 hu
          obtain ⟨y, hy⟩ : ∃ y, y = am.getD t 0 := ⟨_, rfl⟩
          rw [← hy] at hcy
          have HY : Hid (y = am.getD t 0) := hy
          have hcz : v.cell? ⟨w.heap.size, u, none⟩ = some (.int .u64 ((acc K ix am t).getD u 0)) := HB.out.word (by rw [acc_length]; exact huK)
          have hfz : v.frozen? ⟨w.heap.size, u, none⟩ = false := HB.out.free u
          obtain ⟨z, hz⟩ : ∃ z, z = (acc K ix am t).getD u 0 := ⟨_, rfl⟩
          rw [← hz] at hcz
          have HZ : Hid (z = (acc K ix am t).getD u 0) := hz
          clear hy hz
          go_wp2
          go_region
          all_goals
            go_wp2
            go_roundw
            case rel =>
              refine ⟨t + 1, _, rfl, by omega, by go_num, tot_step HY.out, ?_, (HBW.out.setCell (Nat.le_refl _) _).drew⟩
              show Blk _ w.heap.size 25 (words (acc K ix am (t + 1)))
              rw [← acc_step HU.out HY.out HZ.out]
              exact (HB.out.set u _).drew
            case measure => simp [intOf]; omega
        · have HB2 : Hid (Blk v w.heap.size 25 (words (acc K ix am n1))) := by
            have h := HB.out
            rw [show t = n1 by omega] at h
            exact h
          obtain ⟨s, hs⟩ : ∃ s, s = tot am t := ⟨_, rfl⟩
          rw [← hs]
          rw [show t = n1 by omega] at hs
          have HT : Hid (s = tot am n1) := hs
          clear hs HB
          go_wp2_with fail
          refine (new_any K v (by omega)).mono ?_
          rintro e w5 ⟨p, rfl, hbc, hbp, hgp, hb5⟩
          have HC5 : Hid (Blk w5 v.heap.size 38 (List.replicate K (.int .u64 0))) := hbc
          have HP5 : Hid (Blk w5 p 33 [.slice (some ⟨v.heap.size, 0, none⟩) K K]) := hbp
          have HW5 : Hid (Blk w5 w.heap.size 25 (words (acc K ix am n1))) := HB2.out.below hb5 hltv
          have HBW5 : Hid (Below w.heap.size w w5) := below_trans HBW.out hb5 (by omega)
          clear hbc hbp hb5 HB2 HBW
          go_wp2
          go_loopw [13] (fun j wr => ∃ (t : Nat) (v3 : World), v3 = wr ∧ t ≤ n1 ∧ j = .int .i64 t ∧ Hid (Blk v3 v.heap.size 38 (words (acc K ix am t))) ∧ Hid (Blk v3 p 33 [.slice (some ⟨v.heap.size, 0, none⟩) K K]) ∧ Hid (Blk v3 w.heap.size 25 (words (acc K ix am n1))) ∧ Hid (Below w.heap.size w v3)) (fun j _ => n1 - (intOf j).toNat)
          case atStart =>
            refine ⟨0, _, rfl, Nat.zero_le _, rfl, ?_, HP5, HW5, HBW5⟩
            show Blk w5 v.heap.size 38 (words (List.replicate K 0))
            rw [words_zero]; exact HC5.out
          case round =>
            clear HC5 HP5 HW5 HBW5 hlt ht2
            obtain ⟨t, v3, rfl, ht3, rfl, HB, HP, HW, HBW⟩ := hrel
            have hp0 : v3.cell? ⟨p, 0, none⟩ = some (.slice (some ⟨v.heap.size, 0, none⟩) K K) := by rw [HP.out.at]; rfl
            by_cases hlt : t < n1
            · obtain ⟨b1, o1, rfl, hb1, hc1⟩ := hs1.out (by rw [← hn1.out]; omega)
              obtain ⟨b2, o2, rfl, hb2, hc2⟩ := hs2.out (by rw [← hn2.out]; omega)
              obtain ⟨i0, i1⟩ := HI2.out t hlt
              obtain ⟨u, hu⟩ := Int.eq_ofNat_of_zero_le i0
              have huK : u < K := by omega
              have hcx : v3.cell? ⟨b1, o1 + t, none⟩ = some (.int .i64 (u : Int)) := by rw [← hu, HBW.out.cell (p := ⟨b1, o1 + t, none⟩) hb1]; exact hc1 t (by rw [← hn1.out]; omega)
              have hcy : v3.cell? ⟨b2, o2 + t, none⟩ = some (.int .u64 (am.getD t 0)) := by rw [HBW.out.cell (p := ⟨b2, o2 + t, none⟩) hb2]; exact hc2 t (by rw [← hn2.out]; omega)
              have HU : Hid (ix.getD t 0 = (u : Int)) := hu
              clear hc1 hc2 i0 i1 hu
              obtain ⟨y, hy⟩ : ∃ y, y = am.getD t 0 := ⟨_, rfl⟩
              rw [← hy] at hcy
              have HY : Hid (y = am.getD t 0) := hy
              have hcz : v3.cell? ⟨v.heap.size, u, none⟩ = some (.int .u64 ((acc K ix am t).getD u 0)) := HB.out.word (by rw [acc_length]; exact huK)
              have hfz : v3.frozen? ⟨v.heap.size, u, none⟩ = false := HB.out.free u
              obtain ⟨z, hz⟩ : ∃ z, z = (acc K ix am t).getD u 0 := ⟨_, rfl⟩
              rw [← hz] at hcz
              have HZ : Hid (z = (acc K ix am t).getD u 0) := hz
              clear hy hz
              have hcall : Calls Try.prog 6 #[.pointer (some ⟨p, 0, none⟩), .int .i64 (u : Int), .int .u64 y] v3.drew fun e w' => e = .returned (.tuple #[]) ∧ w' = (v3.setCell ⟨v.heap.size, u, none⟩ (.int .u64 (IntKind.u64.wrap (z + y)))).drew :=
                add_any p v.heap.size K u z y v3.drew huK hp0 hcz hfz
              go_wp2
              go_region_with (go_at_call 6; refine hcall.mono ?_; rintro e w6 ⟨rfl, rfl⟩)
              all_goals
                go_wp2
                go_roundw
                case rel =>
                  refine ⟨t + 1, _, rfl, by omega, by go_num, ?_, (HP.out.other _ _ (by simp; omega)).drew, (HW.out.other _ _ (by simp; omega)).drew, (HBW.out.setCell (by simp; omega) _).drew⟩
                  show Blk _ v.heap.size 38 (words (acc K ix am (t + 1)))
                  rw [← acc_step HU.out HY.out HZ.out]
                  exact (HB.out.set u _).drew
                case measure => simp [intOf]; omega
            · have HC : Hid (Blk v3 v.heap.size 38 (words (acc K ix am n1))) := by
                have h := HB.out
                rw [show t = n1 by omega] at h
                exact h
              clear HB
              go_wp2_with (go_at_call 7; refine (len_any p v.heap.size K _ hp0).mono ?_; rintro e w6 ⟨rfl, rfl⟩)
              go_loop [14, 15] (fun G j => ∃ t : Nat, t ≤ K ∧ j = .int .i64 t ∧ G = .int .u64 (psum (acc K ix am n1) t)) (fun _ j => K - (intOf j).toNat)
              case atStart => exact ⟨0, Nat.zero_le _, rfl, rfl⟩
              case round =>
                obtain ⟨t, ht4, rfl, rfl⟩ := hrel
                by_cases hltK : t < K
                · have hcc : v3.cell? ⟨v.heap.size, t, none⟩ = some (.int .u64 ((acc K ix am n1).getD t 0)) := HC.out.word (by rw [acc_length]; exact hltK)
                  have hcw : v3.cell? ⟨w.heap.size, t, none⟩ = some (.int .u64 ((acc K ix am n1).getD t 0)) := HW.out.word (by rw [acc_length]; exact hltK)
                  obtain ⟨x, hx⟩ : ∃ x, x = (acc K ix am n1).getD t 0 := ⟨_, rfl⟩
                  rw [← hx] at hcc hcw
                  have HX : Hid (x = (acc K ix am n1).getD t 0) := hx
                  clear hx
                  go_wp2_with (go_at_call 8; refine (count_any p v.heap.size K t x _ hltK hp0 hcc).mono ?_; rintro e w6 ⟨rfl, rfl⟩)
                  go_round
                  case rel => exact ⟨t + 1, by omega, by go_num, by rw [psum, ← HX.out]⟩
                  case measure => simp [intOf]; omega
                · have hfin : (psum (acc K ix am n1) t == s) = true := by
                    rw [HT.out, show t = K by omega, sums K ix am n1 HI2.out]; simp
                  go_wp2
                  go_ret
                  exact ⟨rfl, HBW.out⟩
end Go.Proofs.Qxb6613330a
