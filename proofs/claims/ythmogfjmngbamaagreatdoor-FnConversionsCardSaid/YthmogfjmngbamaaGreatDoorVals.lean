/- A block that holds one Value of the thin package: its cells; that it stands while only other blocks turn. No condition. -/
import Derived.Test.YthmogfjmngbamaaGreatDoorBase
namespace Go.Proofs.YthmogfjmngbamaaGreatDoor
open Go.RowKit

/-- block b holds one Value, unshared -/
def IsV (w : World) (b : Nat) (v : Array Value) : Prop := w.heap[b]? = some (.cells v 26 (0, 0))
theorem IsV.lt {w : World} {b : Nat} {v : Array Value} (h : IsV w b v) : b < w.heap.size := by
  unfold IsV at h
  rcases Nat.lt_or_ge b w.heap.size with k | k
  · exact k
  · rw [Array.getElem?_eq_none k] at h; cases h
theorem IsV.below {B : Nat} {w w' : World} {b : Nat} {v : Array Value} (h : IsV w b v) (hb : Below B w w') (hB : b < B) : IsV w' b v := by
  unfold IsV at h ⊢
  rw [hb.block b hB]; exact h
theorem IsV.keep {w w' : World} {b : Nat} {v : Array Value} (h : IsV w b v) (hb : Below w.heap.size w w') : IsV w' b v := h.below hb h.lt
theorem IsV.alloc {w : World} {b : Nat} {v : Array Value} (h : IsV w b v) (o : Obj) : IsV (w.alloc o) b v := by
  have k := h.lt
  unfold IsV at h ⊢
  rw [Below.heap_alloc _ _ _ k]; exact h
theorem IsV.new (w : World) (v : Array Value) : IsV (w.alloc (.cells v 26)) w.heap.size v := by
  unfold IsV
  show (w.heap.push _)[w.heap.size]? = _
  rw [Array.getElem?_push, if_pos rfl]

theorem IsV.cells {w : World} {b : Nat} {a0 a1 a2 a3 a4 a5 a6 a7 : Value} (h : IsV w b #[a0, a1, a2, a3, a4, a5, a6, a7]) :
    w.cell? ⟨b, 0, none⟩ = some a0 ∧ w.cell? ⟨b, 1, none⟩ = some a1 ∧ w.cell? ⟨b, 2, none⟩ = some a2 ∧ w.cell? ⟨b, 3, none⟩ = some a3 ∧ w.cell? ⟨b, 4, none⟩ = some a4 ∧ w.cell? ⟨b, 5, none⟩ = some a5 ∧ w.cell? ⟨b, 6, none⟩ = some a6 ∧ w.cell? ⟨b, 7, none⟩ = some a7 := by
  unfold IsV at h
  refine ⟨?_, ?_, ?_, ?_, ?_, ?_, ?_, ?_⟩ <;> simp [World.cell?, h]
end Go.Proofs.YthmogfjmngbamaaGreatDoor
