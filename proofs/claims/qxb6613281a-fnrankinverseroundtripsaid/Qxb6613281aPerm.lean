/- 'make' into a block of the call's own; the contract of isPerm. -/
import Derived.Test.Qxb6613281aCalls2
namespace Go.Proofs.Qxb6613281a
open Go.RowKit

theorem Try.info3 : (Try.prog.info? 3).map (fun i => (i.zero, i.size, i.bytes)) = some (some (.int .i64 0), 1, 8) := by kernel_rfl
theorem Try.info4 : (Try.prog.info? 4).map (fun i => (i.zero, i.size, i.bytes)) = some (some (.bool false), 1, 1) := by kernel_rfl

/-- 'make([]T, n)', T of one cell: a new block of n zeros. -/
theorem wpList_make_blk {P : Program} (w : World) {ops : Array Oper} {rest : List Oper} {o : Oper} {a : Act} {Q : Exit → Act → World → Prop}
    (hg : o.guard = none) (l c : Operand) (t : TypeId) (hop : o.op = Op.makeSlice t l c) (e : TypeId) (z : Value) (bytes : Nat) (h1 : P.underlying t = some (.slice e))
    (h2 : (P.info? e).map (fun i => (i.zero, i.size, i.bytes)) = some (some z, 1, bytes)) (hz : z.cells = #[z])
    (kl kc : IntKind) (L C : Int) (n : Nat) (hl : a.eval l = .int kl L) (hc : a.eval c = .int kc C) (hL : L = (n : Int)) (hC : C = (n : Int)) (b2 : bytes * n ≤ 281474976710656) (b3 : n ≤ maxLen)
    (hK : ∀ w', Hid (Blk w' w.heap.size e (List.replicate n z)) → Below w.heap.size w w' → w.heap.size < w'.heap.size → wpList P ops Q rest (a.put o.dst (.slice (some ⟨w.heap.size, 0, none⟩) n n)) w') :
    wpList P ops Q (o :: rest) a w := by
  obtain ⟨i, hi, hz0, hz1, hz2⟩ := info_parts h2
  refine wpList_make_full w hg l c t hop w.heap.size e i z 1 h1 hi hz0 hz1 kl kc L C n hl hc hL hC (by rw [hz2]; exact b2) b3 (Nat.le_refl _) fun w' hown hgr => ?_
  have hb := Blk.made hown
  rw [hz, toList_madeCells_one, Nat.mul_one] at hb
  exact hK w' hb ((Below.refl _ w).grown hgr (Nat.le_refl _) (fun k hk => by cases hk)) hb.lt

/-- isPerm's answer: where it is true, a permutation. -/
def PermEnd (xs : List Int) (e : Ending) : Prop := ∃ r, e = .returned (.bool r) ∧ (r = true → IsP xs)

theorem isPerm_nil (a : Option Addr) (cap : Nat) (w : World) :
    Calls Try.prog 6 #[.slice a 0 cap] w fun e w' => e = .returned (.bool true) ∧ Below w.heap.size w w' := by
  go_enter Try.func6, Try.ntmps6
  go_wp2_with (at_make; refine wpList_make_blk _ rfl _ _ 26 rfl 4 (.bool false) 1 Try.underlying26 Try.info4 rfl _ _ _ _ 0 rfl rfl (by omega) (by omega) (by omega) (by unfold maxLen; omega) ?_; intro w1 hblk hbel hlt)
  go_loop [5] (fun i => i = .int .i64 0) (fun _ => 0)
  case atStart => rfl
  case round =>
    subst hrel
    go_wp2
    go_ret
    exact ⟨rfl, hbel⟩

theorem isPerm_some (b off n cap : Nat) (xs : List Int) (w : World) (hn : Hid (n = xs.length)) (hl : n ≤ 1048576) (hbl : b < w.heap.size)
    (hc : Hid (∀ j, j < n → w.cell? ⟨b, off + j, none⟩ = some (.int .i64 (xs.getD j 0)))) :
    Calls Try.prog 6 #[.slice (some ⟨b, off, none⟩) n cap] w fun e w' => PermEnd xs e ∧ Below w.heap.size w w' := by
  go_enter Try.func6, Try.ntmps6
  go_wp2_with (at_make; refine wpList_make_blk _ rfl _ _ 26 rfl 4 (.bool false) 1 Try.underlying26 Try.info4 rfl _ _ _ _ n rfl rfl (by omega) (by omega) (by omega) (by unfold maxLen; omega) ?_; intro w1 hblk hbel hlt)
  go_loopw [5] (fun i wr => ∃ k : Nat, k ≤ n ∧ i = .int .i64 k ∧ Hid (Blk wr w.heap.size 4 (seen xs k)) ∧ Hid (Good xs k) ∧ Below w.heap.size w wr) (fun i _ => n - (intOf i).toNat)
  case atStart =>
    refine ⟨0, Nat.zero_le _, rfl, ?_, Good.zero xs, hbel⟩
    show Blk w1 w.heap.size 4 (seen xs 0)
    rw [seen_zero, ← hn.out]; exact hblk.out
  case round =>
    clear hblk hbel hlt
    obtain ⟨k, hk, rfl, HBk, HG, hb⟩ := hrel
    by_cases hlt : k < n
    · have hck : wr.cell? ⟨b, off + k, none⟩ = some (.int .i64 (xs.getD k 0)) := (hb.cell (p := ⟨b, off + k, none⟩) hbl).trans (hc.out k hlt)
      obtain ⟨x, hx⟩ : ∃ x, x = xs.getD k 0 := ⟨_, rfl⟩
      rw [← hx] at hck
      have HX : Hid (x = xs.getD k 0) := hx
      clear hx
      by_cases h0 : x < 0
      · go_wp2
        go_ret
        exact ⟨⟨false, rfl, fun h => by cases h⟩, hb⟩
      by_cases h1 : (n : Int) ≤ x
      · go_wp2
        go_ret
        exact ⟨⟨false, rfl, fun h => by cases h⟩, hb⟩
      obtain ⟨u, rfl⟩ := Int.eq_ofNat_of_zero_le (Int.not_lt.1 h0)
      have hun : u < n := by omega
      have hfu : wr.frozen? ⟨w.heap.size, u, none⟩ = false := HBk.out.free u
      have hcu : wr.cell? ⟨w.heap.size, u, none⟩ = some (.bool (decide ((u : Int) ∈ xs.take k))) := by rw [HBk.out.at, seen_at _ _ _ (by rw [← hn.out]; exact hun)]
      by_cases hm : (u : Int) ∈ xs.take k
      · rw [decide_eq_true hm] at hcu
        clear hm
        go_wp2
        go_ret
        exact ⟨⟨false, rfl, fun h => by cases h⟩, hb⟩
      · rw [decide_eq_false hm] at hcu
        have HM : Hid ((u : Int) ∉ xs.take k) := hm
        clear hm
        go_wp2
        go_roundw
        case rel =>
          have hN := hn.out
          have e := HX.out
          refine ⟨k + 1, by omega, by go_num, ?_, HG.out.succ (by omega) (by omega) (by omega) (by rw [← e]; exact HM.out), hb.setCell (Nat.le_refl _) _⟩
          show Blk _ w.heap.size 4 (seen xs (k + 1))
          rw [← seen_succ (by omega) e.symm]
          exact HBk.out.set u _
        case measure => simp [intOf]; omega
    · have hkn : k = n := by omega
      go_wp2
      go_ret
      have hN := hn.out
      have hG := HG.out
      rw [hkn, hN] at hG
      exact ⟨⟨true, rfl, fun _ => hG.full⟩, hb⟩

theorem isPerm_any (a : Option Addr) (n cap : Nat) (xs : List Int) (w : World) (hn : n = xs.length) (hs : Sl w a xs) (hl : n ≤ 1048576) :
    Calls Try.prog 6 #[.slice a n cap] w fun e w' => PermEnd xs e ∧ Below w.heap.size w w' := by
  subst hn
  by_cases h0 : 0 < xs.length
  · obtain ⟨b, off, rfl, hb, hc⟩ := hs h0
    exact isPerm_some b off _ cap xs w rfl hl hb hc
  · obtain rfl : xs = [] := List.length_eq_zero_iff.1 (by omega)
    exact (isPerm_nil a cap w).mono fun e w' ⟨h1, h2⟩ => ⟨⟨true, h1, fun _ => ⟨by simp, fun j hj => absurd hj (by simp)⟩⟩, h2⟩
end Go.Proofs.Qxb6613281a
