/- Blocks of the call's own, and slices of ints that can be read: what the walks of this seat say of memory. -/
import Derived.Test.Qxb6613281aRows
import Derived.Test.Qxb6613281aPlain
import Derived.WalkKit
import Derived.Below
import Derived.Laws.CopyOwn
import Derived.OpenShut
namespace Go.Proofs.Qxb6613281a
open Go.RowKit

/-- Block g holds the cells L, none of them frozen. -/
def Blk (w : World) (g : Nat) (e : TypeId) (L : List Value) : Prop := w.heap[g]? = some (.cells L.toArray e (0, 0))
def ints (xs : List Int) : List Value := xs.map (Value.int .i64)
theorem ints_length (xs : List Int) : (ints xs).length = xs.length := by simp [ints]

theorem Blk.at {w : World} {g : Nat} {e : TypeId} {L : List Value} (h : Blk w g e L) (j : Nat) : w.cell? ⟨g, j, none⟩ = L[j]? := by
  unfold Blk at h
  simp [World.cell?, h]
theorem Blk.free {w : World} {g : Nat} {e : TypeId} {L : List Value} (h : Blk w g e L) (j : Nat) : w.frozen? ⟨g, j, none⟩ = false := by
  unfold Blk at h
  simp [World.frozen?, h]
theorem Blk.lt {w : World} {g : Nat} {e : TypeId} {L : List Value} (h : Blk w g e L) : g < w.heap.size := by
  unfold Blk at h
  exact Classical.byContradiction fun hn => by
    rw [Array.getElem?_eq_none (by omega)] at h
    cases h
theorem Blk.below {B : Nat} {w w' : World} {g : Nat} {e : TypeId} {L : List Value} (h : Blk w g e L) (hb : Below B w w') (hg : g < B) : Blk w' g e L := by
  unfold Blk at *
  rw [hb.block g hg, h]
theorem Blk.other {w : World} {g : Nat} {e : TypeId} {L : List Value} (h : Blk w g e L) (a : Addr) (u : Value) (hne : g ≠ a.block) : Blk (w.setCell a u) g e L := by
  unfold Blk at *
  rw [Below.heap_setCell w a u g hne, h]
theorem Blk.set {w : World} {g : Nat} {e : TypeId} {L : List Value} (h : Blk w g e L) (j : Nat) (u : Value) : Blk (w.setCell ⟨g, j, none⟩ u) g e (L.set j u) := by
  unfold Blk at *
  rw [setCell_eq_setRow w g j _ e _ u h, setRow_heap w g _ _ e _ h]
  simp
theorem Blk.int {w : World} {g : Nat} {e : TypeId} {xs : List Int} (h : Blk w g e (ints xs)) {j : Nat} (hj : j < xs.length) : w.cell? ⟨g, j, none⟩ = some (.int .i64 (xs.getD j 0)) := by
  rw [h.at]
  simp [ints, hj, List.getD_eq_getElem?_getD]

/-- What 'make([]T, n)' leaves. -/
theorem Blk.made {w w' : World} {g n : Nat} {e : TypeId} {L : List Value} (h : w'.ownsRow w.heap.size e 1 (.slice (some ⟨g, 0, none⟩) n n) n L) : Blk w' g e L := by
  obtain ⟨_, h⟩ := h
  rcases h with ⟨h, _⟩ | ⟨g', cap, cur, h1, _, h2, _, _, h3, h4⟩
  · cases h
  · simp at h1
    obtain ⟨rfl, rfl⟩ := h1
    unfold Blk
    rw [h2, ← h4, List.take_of_length_le (by simp [h3])]

/-- A slice of ints that can be read: where it has elements, its address and its cells are known. -/
def Sl (w : World) (a : Option Addr) (xs : List Int) : Prop :=
  0 < xs.length → ∃ b off, a = some ⟨b, off, none⟩ ∧ b < w.heap.size ∧ ∀ j, j < xs.length → w.cell? ⟨b, off + j, none⟩ = some (.int .i64 (xs.getD j 0))
theorem Sl.below {w w' : World} {a : Option Addr} {xs : List Int} (h : Sl w a xs) (hb : Below w.heap.size w w') : Sl w' a xs := by
  intro h0
  obtain ⟨b, off, e, hl, hc⟩ := h h0
  exact ⟨b, off, e, Nat.lt_of_lt_of_le hl hb.size, fun j hj => by rw [hb.cell (p := ⟨b, off + j, none⟩) hl, hc j hj]⟩
theorem Blk.sl {w : World} {g : Nat} {e : TypeId} {xs : List Int} (h : Blk w g e (ints xs)) : Sl w (some ⟨g, 0, none⟩) xs :=
  fun _ => ⟨g, 0, rfl, h.lt, fun j hj => by rw [Nat.zero_add]; exact h.int hj⟩
theorem Sl.nil (w : World) (a : Option Addr) : Sl w a [] := fun h => absurd h (by simp)
end Go.Proofs.Qxb6613281a
