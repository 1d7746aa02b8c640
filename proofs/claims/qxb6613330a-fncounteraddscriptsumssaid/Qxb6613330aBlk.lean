/- Blocks of the call's own, and slices of numbers that can be read: what the walks of this seat say of memory. -/
import Derived.Test.Qxb6613330aRows
import Derived.Test.Qxb6613330aSums
import Derived.WalkKit
import Derived.Below
import Derived.Laws.CopyOwn
import Derived.OpenShut
namespace Go.Proofs.Qxb6613330a
open Go.RowKit

/-- Block g holds the cells L, none of them frozen. -/
def Blk (w : World) (g : Nat) (e : TypeId) (L : List Value) : Prop := w.heap[g]? = some (.cells L.toArray e (0, 0))
def words (xs : List Int) : List Value := xs.map (Value.int .u64)
theorem words_length (xs : List Int) : (words xs).length = xs.length := by simp [words]
theorem words_set (L : List Int) (t : Nat) (v : Int) : (words L).set t (.int .u64 v) = words (L.set t v) := by simp [words, List.map_set]
theorem words_zero (n : Nat) : words (List.replicate n 0) = List.replicate n (.int .u64 0) := by simp [words]

theorem Blk.at {w : World} {g : Nat} {e : TypeId} {L : List Value} (h : Blk w g e L) (j : Nat) : w.cell? ⟨g, j, none⟩ = L[j]? := by
  unfold Blk at h
  simp [World.cell?, h]
theorem Blk.free {w : World} {g : Nat} {e : TypeId} {L : List Value} (h : Blk w g e L) (j : Nat) : w.frozen? ⟨g, j, none⟩ = false := by
  unfold Blk at h
  simp [World.frozen?, h]
theorem Blk.lt {w : World} {g : Nat} {e : TypeId} {L : List Value} (h : Blk w g e L) : g < w.heap.size := by
  unfold Blk at h
  exact Classical.byContradiction fun hn => by
    rw [Array.getElem?_eq_none (by omega)] at h
    cases h
theorem Blk.below {B : Nat} {w w' : World} {g : Nat} {e : TypeId} {L : List Value} (h : Blk w g e L) (hb : Below B w w') (hg : g < B) : Blk w' g e L := by
  unfold Blk at *
  rw [hb.block g hg, h]
theorem Blk.other {w : World} {g : Nat} {e : TypeId} {L : List Value} (h : Blk w g e L) (a : Addr) (u : Value) (hne : g ≠ a.block) : Blk (w.setCell a u) g e L := by
  unfold Blk at *
  rw [Below.heap_setCell w a u g hne, h]
theorem Blk.set {w : World} {g : Nat} {e : TypeId} {L : List Value} (h : Blk w g e L) (j : Nat) (u : Value) : Blk (w.setCell ⟨g, j, none⟩ u) g e (L.set j u) := by
  unfold Blk at *
  rw [setCell_eq_setRow w g j _ e _ u h, setRow_heap w g _ _ e _ h]
  simp
theorem Blk.drew {w : World} {g : Nat} {e : TypeId} {L : List Value} (h : Blk w g e L) : Blk w.drew g e L := h
theorem Blk.word {w : World} {g : Nat} {e : TypeId} {xs : List Int} (h : Blk w g e (words xs)) {j : Nat} (hj : j < xs.length) : w.cell? ⟨g, j, none⟩ = some (.int .u64 (xs.getD j 0)) := by
  rw [h.at]
  simp [words, hj, List.getD_eq_getElem?_getD]

/-- What 'make([]T, n)' leaves. -/
theorem Blk.made {w w' : World} {g n : Nat} {e : TypeId} {L : List Value} (h : w'.ownsRow w.heap.size e 1 (.slice (some ⟨g, 0, none⟩) n n) n L) : Blk w' g e L := by
  obtain ⟨_, h⟩ := h
  rcases h with ⟨h, _⟩ | ⟨g', cap, cur, h1, _, h2, _, _, h3, h4⟩
  · cases h
  · simp at h1
    obtain ⟨rfl, rfl⟩ := h1
    unfold Blk
    rw [h2, ← h4, List.take_of_length_le (by simp [h3])]

/-- 'make([]T, n)', T of one cell: a new block of n zeros. -/
theorem wpList_make_blk {P : Program} (w : World) {ops : Array Oper} {rest : List Oper} {o : Oper} {a : Act} {Q : Exit → Act → World → Prop}
    (hg : o.guard = none) (l c : Operand) (t : TypeId) (hop : o.op = Op.makeSlice t l c) (e : TypeId) (z z1 : Value) (bytes : Nat) (h1 : P.underlying t = some (.slice e))
    (h2 : (P.info? e).map (fun i => (i.zero, i.size, i.bytes)) = some (some z, 1, bytes)) (hz : z.cells = #[z1])
    (kl kc : IntKind) (L C : Int) (n : Nat) (hl : a.eval l = .int kl L) (hc : a.eval c = .int kc C) (hL : L = (n : Int)) (hC : C = (n : Int)) (b2 : bytes * n ≤ 281474976710656) (b3 : n ≤ maxLen)
    (hK : ∀ w', Hid (Blk w' w.heap.size e (List.replicate n z1)) → Below w.heap.size w w' → w.heap.size < w'.heap.size → wpList P ops Q rest (a.put o.dst (.slice (some ⟨w.heap.size, 0, none⟩) n n)) w') :
    wpList P ops Q (o :: rest) a w := by
  obtain ⟨i, hi, hz0, hz1, hz2⟩ := info_parts h2
  refine wpList_make_full w hg l c t hop w.heap.size e i z 1 h1 hi hz0 hz1 kl kc L C n hl hc hL hC (by rw [hz2]; exact b2) b3 (Nat.le_refl _) fun w' hown hgr => ?_
  have hb := Blk.made hown
  rw [hz, toList_madeCells_one, Nat.mul_one] at hb
  exact hK w' hb ((Below.refl _ w).grown hgr (Nat.le_refl _) (fun k hk => by cases hk)) hb.lt

/-- A slice of integers that can be read: where it has elements, its address and its cells are known. -/
def Sl (k : IntKind) (w : World) (a : Option Addr) (xs : List Int) : Prop :=
  0 < xs.length → ∃ b off, a = some ⟨b, off, none⟩ ∧ b < w.heap.size ∧ ∀ j, j < xs.length → w.cell? ⟨b, off + j, none⟩ = some (.int k (xs.getD j 0))
theorem Sl.nil (k : IntKind) (w : World) (a : Option Addr) : Sl k w a [] := fun h => absurd h (by simp)
theorem below_trans {B : Nat} {u v w : World} (h1 : Below B u v) (h2 : Below v.heap.size v w) (hB : B ≤ v.heap.size) : Below B u w := h1.trans (h2.mono hB)
end Go.Proofs.Qxb6613330a
