/- The walk of FnCountsFieldsAreALiveViewInOrder: the outer loop's round once for each k, the inner loops' rounds once for each j. -/
import Derived.Test.Qxb6613234aFields
import Derived.Deep.QuietTactic
import Derived.BigQuiet
import Derived.StillTactics
import Derived.Below
import Derived.Deep.CutRange
namespace Go.Proofs.Qxb6613234a
open Go.ChangeShapes Go.WideShapes Go.ChangeAt Go.RowKit

/-- Three cells in a row from a block's head. -/
def Row3 (u : World) (B : Nat) (x y z : Value) : Prop := u.cell? ⟨B, 0, none⟩ = some x ∧ u.cell? ⟨B, 1, none⟩ = some y ∧ u.cell? ⟨B, 2, none⟩ = some z
/-- Three cells that may be written. -/
def Free3 (u : World) (B : Nat) : Prop := u.frozen? ⟨B, 0, none⟩ = false ∧ u.frozen? ⟨B, 1, none⟩ = false ∧ u.frozen? ⟨B, 2, none⟩ = false
theorem Row3.drewN {u : World} {B : Nat} {x y z : Value} (h : Row3 u B x y z) (n : Nat) : Row3 (u.drewN n) B x y z := by
  simpa [Row3, go_sem] using h
theorem Free3.drewN {u : World} {B : Nat} (h : Free3 u B) (n : Nat) : Free3 (u.drewN n) B := by
  simpa [Free3, go_sem] using h

theorem bdrewN {B : Nat} {a w : World} (h : Below B a w) (n : Nat) : Below B a (w.drewN n) := h.trans ⟨rfl, rfl, rfl, Nat.le_refl _, fun _ _ => rfl⟩

attribute [local go_sem] neq_ptr

set_option maxRecDepth 20000 in
set_option maxHeartbeats 4000000 in
theorem walk0 (m a rd x : Int) (w : World) :
    Calls Try.prog 3 #[.int .i64 m, .int .i64 a, .int .i64 rd, .int .i64 x] w fun e w' => e = .returned (.bool true) ∧ Below w.heap.size w w' := by
  go_enter Try.func3, Try.ntmps3
  go_wp2
  go_loopw [10] (fun i wr => ∃ (k : Nat) (v : World), v = wr ∧ k ≤ 3 ∧ i = .int .i64 k ∧ w.heap.size < v.heap.size ∧ Row3 v w.heap.size (.int .i64 m) (.int .i64 a) (.int .i64 rd) ∧ Below w.heap.size w v) (fun i _ => 3 - (intOf i).toNat)
  case atStart => exact ⟨0, _, rfl, by omega, rfl, by simp, ⟨by simp [go_sem], by simp [go_sem], by simp [go_sem]⟩, (Below.refl _ _).alloc (Nat.le_refl _) _⟩
  case round =>
    obtain ⟨k, v, rfl, hk, rfl, hz, ⟨h0, h1, h2⟩, hb⟩ := hrel
    by_cases hlt : k < 3
    · obtain rfl | rfl | rfl : k = 0 ∨ k = 1 ∨ k = 2 := by omega
      · go_wp2_with (go_at_call 4; refine (zz_any _ _).mono ?_; rintro e w' ⟨rfl, rfl⟩)
        go_loopw [13] (fun j wr => ∃ (t : Nat) (v1 : World), v1 = wr ∧ t ≤ 3 ∧ j = .int .i64 t ∧ v.heap.size + 1 < v1.heap.size ∧ Row3 v1 w.heap.size (.int .i64 m) (.int .i64 a) (.int .i64 rd) ∧ Row3 v1 v.heap.size (.int .i64 m) (.int .i64 a) (.int .i64 rd) ∧ Row3 v1 (v.heap.size + 1) (.pointer (some ⟨v.heap.size, 0, none⟩)) (.pointer (some ⟨v.heap.size, 1, none⟩)) (.pointer (some ⟨v.heap.size, 2, none⟩)) ∧ Free3 v1 v.heap.size ∧ Below w.heap.size w v1) (fun j _ => 3 - (intOf j).toNat)
        case atStart =>
          refine ⟨0, _, rfl, by omega, rfl, by simp, ⟨?_, ?_, ?_⟩, ⟨?_, ?_, ?_⟩, ⟨?_, ?_, ?_⟩, ⟨?_, ?_, ?_⟩, ?_⟩
          all_goals first | (simp [go_sem, World.cell?_alloc_past, *]; done) | skip
          exact ((hb.alloc (by omega) _).alloc (by simp; omega) _).drew
        case round =>
          obtain ⟨t, v1, rfl, ht, rfl, hv, ⟨g0, g1, g2⟩, ⟨c0, c1, c2⟩, ⟨p0, p1, p2⟩, ⟨f0, f1, f2⟩, hbv⟩ := hrel
          by_cases hlt3 : t < 3
          · obtain rfl | rfl | rfl : t = 0 ∨ t = 1 ∨ t = 2 := by omega
            · go_wp2
              go_quiet (fail)
              go_wp2
              go_roundw
              case rel => exact ⟨1, _, rfl, by omega, rfl, by simpa using hv, Row3.drewN ⟨g0, g1, g2⟩ _, Row3.drewN ⟨c0, c1, c2⟩ _, Row3.drewN ⟨p0, p1, p2⟩ _, Free3.drewN ⟨f0, f1, f2⟩ _, bdrewN hbv _⟩
              case measure => simp [intOf]
            · go_wp2
              go_quiet (fail)
              go_wp2
              go_roundw
              case rel => exact ⟨2, _, rfl, by omega, rfl, by simpa using hv, Row3.drewN ⟨g0, g1, g2⟩ _, Row3.drewN ⟨c0, c1, c2⟩ _, Row3.drewN ⟨p0, p1, p2⟩ _, Free3.drewN ⟨f0, f1, f2⟩ _, bdrewN hbv _⟩
              case measure => simp [intOf]
            · go_wp2
              go_quiet (fail)
              go_wp2
              go_roundw
              case rel => exact ⟨3, _, rfl, by omega, rfl, by simpa using hv, Row3.drewN ⟨g0, g1, g2⟩ _, Row3.drewN ⟨c0, c1, c2⟩ _, Row3.drewN ⟨p0, p1, p2⟩ _, Free3.drewN ⟨f0, f1, f2⟩ _, bdrewN hbv _⟩
              case measure => simp [intOf]
          · obtain rfl : t = 3 := by omega
            have hv2 : v.heap.size < v1.heap.size := by omega
            have hv3 : w.heap.size < v1.heap.size := by omega
            go_wp2_with (go_at_call 4; refine (zz_any _ _).mono ?_; rintro e w' ⟨rfl, rfl⟩)
            go_loopw [16] (fun j wr => ∃ (t : Nat) (v2 : World), v2 = wr ∧ t ≤ 3 ∧ j = .int .i64 t ∧ v1.heap.size + 1 < v2.heap.size ∧ Row3 v2 w.heap.size (.int .i64 m) (.int .i64 a) (.int .i64 rd) ∧ Row3 v2 v.heap.size (.int .i64 x) (.int .i64 a) (.int .i64 rd) ∧ Row3 v2 (v.heap.size + 1) (.pointer (some ⟨v.heap.size, 0, none⟩)) (.pointer (some ⟨v.heap.size, 1, none⟩)) (.pointer (some ⟨v.heap.size, 2, none⟩)) ∧ Row3 v2 v1.heap.size (.pointer (some ⟨v.heap.size, 0, none⟩)) (.pointer (some ⟨v.heap.size, 1, none⟩)) (.pointer (some ⟨v.heap.size, 2, none⟩)) ∧ Row3 v2 (v1.heap.size + 1) (.int .i64 x) (.int .i64 a) (.int .i64 rd) ∧ Below w.heap.size w v2) (fun j _ => 3 - (intOf j).toNat)
            case atStart =>
              refine ⟨0, _, rfl, by omega, rfl, by simp, ⟨?_, ?_, ?_⟩, ⟨?_, ?_, ?_⟩, ⟨?_, ?_, ?_⟩, ⟨?_, ?_, ?_⟩, ⟨?_, ?_, ?_⟩, ?_⟩
              all_goals first | (simp [go_sem, World.cell?_alloc_past, *]; done) | skip
              exact (((hbv.setCell (by simp; omega) _).alloc (by simp; omega) _).alloc (by simp; omega) _).drew
            case round =>
              clear h0 h1 h2 g0 g1 g2 c0 c1 c2 p0 p1 p2 f0 f1 f2 hb hbv
              obtain ⟨t, v2, rfl, ht2, rfl, hv4, ⟨g0, g1, g2⟩, ⟨c0, c1, c2⟩, ⟨p0, p1, p2⟩, ⟨q0, q1, q2⟩, ⟨y0, y1, y2⟩, hbv⟩ := hrel
              by_cases hlt4 : t < 3
              · obtain rfl | rfl | rfl : t = 0 ∨ t = 1 ∨ t = 2 := by omega
                · go_wp2
                  go_quiet (fail)
                  go_wp2
                  go_roundw
                  case rel => exact ⟨1, _, rfl, by omega, rfl, by simpa using hv4, Row3.drewN ⟨g0, g1, g2⟩ _, Row3.drewN ⟨c0, c1, c2⟩ _, Row3.drewN ⟨p0, p1, p2⟩ _, Row3.drewN ⟨q0, q1, q2⟩ _, Row3.drewN ⟨y0, y1, y2⟩ _, bdrewN hbv _⟩
                  case measure => simp [intOf]
                · go_wp2
                  go_quiet (fail)
                  go_wp2
                  go_roundw
                  case rel => exact ⟨2, _, rfl, by omega, rfl, by simpa using hv4, Row3.drewN ⟨g0, g1, g2⟩ _, Row3.drewN ⟨c0, c1, c2⟩ _, Row3.drewN ⟨p0, p1, p2⟩ _, Row3.drewN ⟨q0, q1, q2⟩ _, Row3.drewN ⟨y0, y1, y2⟩ _, bdrewN hbv _⟩
                  case measure => simp [intOf]
                · go_wp2
                  go_quiet (fail)
                  go_wp2
                  go_roundw
                  case rel => exact ⟨3, _, rfl, by omega, rfl, by simpa using hv4, Row3.drewN ⟨g0, g1, g2⟩ _, Row3.drewN ⟨c0, c1, c2⟩ _, Row3.drewN ⟨p0, p1, p2⟩ _, Row3.drewN ⟨q0, q1, q2⟩ _, Row3.drewN ⟨y0, y1, y2⟩ _, bdrewN hbv _⟩
                  case measure => simp [intOf]
              · obtain rfl : t = 3 := by omega
                go_wp2
                go_roundw
                case rel => exact ⟨1, _, rfl, by omega, rfl, by omega, ⟨g0, g1, g2⟩, hbv⟩
                case measure => simp [intOf]
      · go_wp2_with (go_at_call 4; refine (zz_any _ _).mono ?_; rintro e w' ⟨rfl, rfl⟩)
        go_loopw [13] (fun j wr => ∃ (t : Nat) (v1 : World), v1 = wr ∧ t ≤ 3 ∧ j = .int .i64 t ∧ v.heap.size + 1 < v1.heap.size ∧ Row3 v1 w.heap.size (.int .i64 m) (.int .i64 a) (.int .i64 rd) ∧ Row3 v1 v.heap.size (.int .i64 m) (.int .i64 a) (.int .i64 rd) ∧ Row3 v1 (v.heap.size + 1) (.pointer (some ⟨v.heap.size, 0, none⟩)) (.pointer (some ⟨v.heap.size, 1, none⟩)) (.pointer (some ⟨v.heap.size, 2, none⟩)) ∧ Free3 v1 v.heap.size ∧ Below w.heap.size w v1) (fun j _ => 3 - (intOf j).toNat)
        case atStart =>
          refine ⟨0, _, rfl, by omega, rfl, by simp, ⟨?_, ?_, ?_⟩, ⟨?_, ?_, ?_⟩, ⟨?_, ?_, ?_⟩, ⟨?_, ?_, ?_⟩, ?_⟩
          all_goals first | (simp [go_sem, World.cell?_alloc_past, *]; done) | skip
          exact ((hb.alloc (by omega) _).alloc (by simp; omega) _).drew
        case round =>
          obtain ⟨t, v1, rfl, ht, rfl, hv, ⟨g0, g1, g2⟩, ⟨c0, c1, c2⟩, ⟨p0, p1, p2⟩, ⟨f0, f1, f2⟩, hbv⟩ := hrel
          by_cases hlt3 : t < 3
          · obtain rfl | rfl | rfl : t = 0 ∨ t = 1 ∨ t = 2 := by omega
            · go_wp2
              go_quiet (fail)
              go_wp2
              go_roundw
              case rel => exact ⟨1, _, rfl, by omega, rfl, by simpa using hv, Row3.drewN ⟨g0, g1, g2⟩ _, Row3.drewN ⟨c0, c1, c2⟩ _, Row3.drewN ⟨p0, p1, p2⟩ _, Free3.drewN ⟨f0, f1, f2⟩ _, bdrewN hbv _⟩
              case measure => simp [intOf]
            · go_wp2
              go_quiet (fail)
              go_wp2
              go_roundw
              case rel => exact ⟨2, _, rfl, by omega, rfl, by simpa using hv, Row3.drewN ⟨g0, g1, g2⟩ _, Row3.drewN ⟨c0, c1, c2⟩ _, Row3.drewN ⟨p0, p1, p2⟩ _, Free3.drewN ⟨f0, f1, f2⟩ _, bdrewN hbv _⟩
              case measure => simp [intOf]
            · go_wp2
              go_quiet (fail)
              go_wp2
              go_roundw
              case rel => exact ⟨3, _, rfl, by omega, rfl, by simpa using hv, Row3.drewN ⟨g0, g1, g2⟩ _, Row3.drewN ⟨c0, c1, c2⟩ _, Row3.drewN ⟨p0, p1, p2⟩ _, Free3.drewN ⟨f0, f1, f2⟩ _, bdrewN hbv _⟩
              case measure => simp [intOf]
          · obtain rfl : t = 3 := by omega
            have hv2 : v.heap.size < v1.heap.size := by omega
            have hv3 : w.heap.size < v1.heap.size := by omega
            go_wp2_with (go_at_call 4; refine (zz_any _ _).mono ?_; rintro e w' ⟨rfl, rfl⟩)
            go_loopw [16] (fun j wr => ∃ (t : Nat) (v2 : World), v2 = wr ∧ t ≤ 3 ∧ j = .int .i64 t ∧ v1.heap.size + 1 < v2.heap.size ∧ Row3 v2 w.heap.size (.int .i64 m) (.int .i64 a) (.int .i64 rd) ∧ Row3 v2 v.heap.size (.int .i64 m) (.int .i64 x) (.int .i64 rd) ∧ Row3 v2 (v.heap.size + 1) (.pointer (some ⟨v.heap.size, 0, none⟩)) (.pointer (some ⟨v.heap.size, 1, none⟩)) (.pointer (some ⟨v.heap.size, 2, none⟩)) ∧ Row3 v2 v1.heap.size (.pointer (some ⟨v.heap.size, 0, none⟩)) (.pointer (some ⟨v.heap.size, 1, none⟩)) (.pointer (some ⟨v.heap.size, 2, none⟩)) ∧ Row3 v2 (v1.heap.size + 1) (.int .i64 m) (.int .i64 x) (.int .i64 rd) ∧ Below w.heap.size w v2) (fun j _ => 3 - (intOf j).toNat)
            case atStart =>
              refine ⟨0, _, rfl, by omega, rfl, by simp, ⟨?_, ?_, ?_⟩, ⟨?_, ?_, ?_⟩, ⟨?_, ?_, ?_⟩, ⟨?_, ?_, ?_⟩, ⟨?_, ?_, ?_⟩, ?_⟩
              all_goals first | (simp [go_sem, World.cell?_alloc_past, *]; done) | skip
              exact (((hbv.setCell (by simp; omega) _).alloc (by simp; omega) _).alloc (by simp; omega) _).drew
            case round =>
              clear h0 h1 h2 g0 g1 g2 c0 c1 c2 p0 p1 p2 f0 f1 f2 hb hbv
              obtain ⟨t, v2, rfl, ht2, rfl, hv4, ⟨g0, g1, g2⟩, ⟨c0, c1, c2⟩, ⟨p0, p1, p2⟩, ⟨q0, q1, q2⟩, ⟨y0, y1, y2⟩, hbv⟩ := hrel
              by_cases hlt4 : t < 3
              · obtain rfl | rfl | rfl : t = 0 ∨ t = 1 ∨ t = 2 := by omega
                · go_wp2
                  go_quiet (fail)
                  go_wp2
                  go_roundw
                  case rel => exact ⟨1, _, rfl, by omega, rfl, by simpa using hv4, Row3.drewN ⟨g0, g1, g2⟩ _, Row3.drewN ⟨c0, c1, c2⟩ _, Row3.drewN ⟨p0, p1, p2⟩ _, Row3.drewN ⟨q0, q1, q2⟩ _, Row3.drewN ⟨y0, y1, y2⟩ _, bdrewN hbv _⟩
                  case measure => simp [intOf]
                · go_wp2
                  go_quiet (fail)
                  go_wp2
                  go_roundw
                  case rel => exact ⟨2, _, rfl, by omega, rfl, by simpa using hv4, Row3.drewN ⟨g0, g1, g2⟩ _, Row3.drewN ⟨c0, c1, c2⟩ _, Row3.drewN ⟨p0, p1, p2⟩ _, Row3.drewN ⟨q0, q1, q2⟩ _, Row3.drewN ⟨y0, y1, y2⟩ _, bdrewN hbv _⟩
                  case measure => simp [intOf]
                · go_wp2
                  go_quiet (fail)
                  go_wp2
                  go_roundw
                  case rel => exact ⟨3, _, rfl, by omega, rfl, by simpa using hv4, Row3.drewN ⟨g0, g1, g2⟩ _, Row3.drewN ⟨c0, c1, c2⟩ _, Row3.drewN ⟨p0, p1, p2⟩ _, Row3.drewN ⟨q0, q1, q2⟩ _, Row3.drewN ⟨y0, y1, y2⟩ _, bdrewN hbv _⟩
                  case measure => simp [intOf]
              · obtain rfl : t = 3 := by omega
                go_wp2
                go_roundw
                case rel => exact ⟨2, _, rfl, by omega, rfl, by omega, ⟨g0, g1, g2⟩, hbv⟩
                case measure => simp [intOf]
      · go_wp2_with (go_at_call 4; refine (zz_any _ _).mono ?_; rintro e w' ⟨rfl, rfl⟩)
        go_loopw [13] (fun j wr => ∃ (t : Nat) (v1 : World), v1 = wr ∧ t ≤ 3 ∧ j = .int .i64 t ∧ v.heap.size + 1 < v1.heap.size ∧ Row3 v1 w.heap.size (.int .i64 m) (.int .i64 a) (.int .i64 rd) ∧ Row3 v1 v.heap.size (.int .i64 m) (.int .i64 a) (.int .i64 rd) ∧ Row3 v1 (v.heap.size + 1) (.pointer (some ⟨v.heap.size, 0, none⟩)) (.pointer (some ⟨v.heap.size, 1, none⟩)) (.pointer (some ⟨v.heap.size, 2, none⟩)) ∧ Free3 v1 v.heap.size ∧ Below w.heap.size w v1) (fun j _ => 3 - (intOf j).toNat)
        case atStart =>
          refine ⟨0, _, rfl, by omega, rfl, by simp, ⟨?_, ?_, ?_⟩, ⟨?_, ?_, ?_⟩, ⟨?_, ?_, ?_⟩, ⟨?_, ?_, ?_⟩, ?_⟩
          all_goals first | (simp [go_sem, World.cell?_alloc_past, *]; done) | skip
          exact ((hb.alloc (by omega) _).alloc (by simp; omega) _).drew
        case round =>
          obtain ⟨t, v1, rfl, ht, rfl, hv, ⟨g0, g1, g2⟩, ⟨c0, c1, c2⟩, ⟨p0, p1, p2⟩, ⟨f0, f1, f2⟩, hbv⟩ := hrel
          by_cases hlt3 : t < 3
          · obtain rfl | rfl | rfl : t = 0 ∨ t = 1 ∨ t = 2 := by omega
            · go_wp2
              go_quiet (fail)
              go_wp2
              go_roundw
              case rel => exact ⟨1, _, rfl, by omega, rfl, by simpa using hv, Row3.drewN ⟨g0, g1, g2⟩ _, Row3.drewN ⟨c0, c1, c2⟩ _, Row3.drewN ⟨p0, p1, p2⟩ _, Free3.drewN ⟨f0, f1, f2⟩ _, bdrewN hbv _⟩
              case measure => simp [intOf]
            · go_wp2
              go_quiet (fail)
              go_wp2
              go_roundw
              case rel => exact ⟨2, _, rfl, by omega, rfl, by simpa using hv, Row3.drewN ⟨g0, g1, g2⟩ _, Row3.drewN ⟨c0, c1, c2⟩ _, Row3.drewN ⟨p0, p1, p2⟩ _, Free3.drewN ⟨f0, f1, f2⟩ _, bdrewN hbv _⟩
              case measure => simp [intOf]
            · go_wp2
              go_quiet (fail)
              go_wp2
              go_roundw
              case rel => exact ⟨3, _, rfl, by omega, rfl, by simpa using hv, Row3.drewN ⟨g0, g1, g2⟩ _, Row3.drewN ⟨c0, c1, c2⟩ _, Row3.drewN ⟨p0, p1, p2⟩ _, Free3.drewN ⟨f0, f1, f2⟩ _, bdrewN hbv _⟩
              case measure => simp [intOf]
          · obtain rfl : t = 3 := by omega
            have hv2 : v.heap.size < v1.heap.size := by omega
            have hv3 : w.heap.size < v1.heap.size := by omega
            go_wp2_with (go_at_call 4; refine (zz_any _ _).mono ?_; rintro e w' ⟨rfl, rfl⟩)
            go_loopw [16] (fun j wr => ∃ (t : Nat) (v2 : World), v2 = wr ∧ t ≤ 3 ∧ j = .int .i64 t ∧ v1.heap.size + 1 < v2.heap.size ∧ Row3 v2 w.heap.size (.int .i64 m) (.int .i64 a) (.int .i64 rd) ∧ Row3 v2 v.heap.size (.int .i64 m) (.int .i64 a) (.int .i64 x) ∧ Row3 v2 (v.heap.size + 1) (.pointer (some ⟨v.heap.size, 0, none⟩)) (.pointer (some ⟨v.heap.size, 1, none⟩)) (.pointer (some ⟨v.heap.size, 2, none⟩)) ∧ Row3 v2 v1.heap.size (.pointer (some ⟨v.heap.size, 0, none⟩)) (.pointer (some ⟨v.heap.size, 1, none⟩)) (.pointer (some ⟨v.heap.size, 2, none⟩)) ∧ Row3 v2 (v1.heap.size + 1) (.int .i64 m) (.int .i64 a) (.int .i64 x) ∧ Below w.heap.size w v2) (fun j _ => 3 - (intOf j).toNat)
            case atStart =>
              refine ⟨0, _, rfl, by omega, rfl, by simp, ⟨?_, ?_, ?_⟩, ⟨?_, ?_, ?_⟩, ⟨?_, ?_, ?_⟩, ⟨?_, ?_, ?_⟩, ⟨?_, ?_, ?_⟩, ?_⟩
              all_goals first | (simp [go_sem, World.cell?_alloc_past, *]; done) | skip
              exact (((hbv.setCell (by simp; omega) _).alloc (by simp; omega) _).alloc (by simp; omega) _).drew
            case round =>
              clear h0 h1 h2 g0 g1 g2 c0 c1 c2 p0 p1 p2 f0 f1 f2 hb hbv
              obtain ⟨t, v2, rfl, ht2, rfl, hv4, ⟨g0, g1, g2⟩, ⟨c0, c1, c2⟩, ⟨p0, p1, p2⟩, ⟨q0, q1, q2⟩, ⟨y0, y1, y2⟩, hbv⟩ := hrel
              by_cases hlt4 : t < 3
              · obtain rfl | rfl | rfl : t = 0 ∨ t = 1 ∨ t = 2 := by omega
                · go_wp2
                  go_quiet (fail)
                  go_wp2
                  go_roundw
                  case rel => exact ⟨1, _, rfl, by omega, rfl, by simpa using hv4, Row3.drewN ⟨g0, g1, g2⟩ _, Row3.drewN ⟨c0, c1, c2⟩ _, Row3.drewN ⟨p0, p1, p2⟩ _, Row3.drewN ⟨q0, q1, q2⟩ _, Row3.drewN ⟨y0, y1, y2⟩ _, bdrewN hbv _⟩
                  case measure => simp [intOf]
                · go_wp2
                  go_quiet (fail)
                  go_wp2
                  go_roundw
                  case rel => exact ⟨2, _, rfl, by omega, rfl, by simpa using hv4, Row3.drewN ⟨g0, g1, g2⟩ _, Row3.drewN ⟨c0, c1, c2⟩ _, Row3.drewN ⟨p0, p1, p2⟩ _, Row3.drewN ⟨q0, q1, q2⟩ _, Row3.drewN ⟨y0, y1, y2⟩ _, bdrewN hbv _⟩
                  case measure => simp [intOf]
                · go_wp2
                  go_quiet (fail)
                  go_wp2
                  go_roundw
                  case rel => exact ⟨3, _, rfl, by omega, rfl, by simpa using hv4, Row3.drewN ⟨g0, g1, g2⟩ _, Row3.drewN ⟨c0, c1, c2⟩ _, Row3.drewN ⟨p0, p1, p2⟩ _, Row3.drewN ⟨q0, q1, q2⟩ _, Row3.drewN ⟨y0, y1, y2⟩ _, bdrewN hbv _⟩
                  case measure => simp [intOf]
              · obtain rfl : t = 3 := by omega
                go_wp2
                go_roundw
                case rel => exact ⟨3, _, rfl, by omega, rfl, by omega, ⟨g0, g1, g2⟩, hbv⟩
                case measure => simp [intOf]
    · obtain rfl : k = 3 := by omega
      go_wp2
      go_ret
      exact ⟨rfl, hb⟩
end Go.Proofs.Qxb6613234a
