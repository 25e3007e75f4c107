/-
  ROWS THAT THE LAW ITSELF MAKES AND FILLS.
-/
import Derived.Test.YbulkeidmL1
namespace Go.Proofs.Ybulkeidm
open Go.RowKit

/-- Block b is a row of n cells of type t. -/
def RowB (w : World) (b : Nat) (t : TypeId) (n : Nat) : Prop := ∃ arr : Array Value, w.heap[b]? = some (.cells arr t (0, 0)) ∧ arr.size = n
/-- .. and its cell k holds f k. -/
def RowF (w : World) (b : Nat) (t : TypeId) (n : Nat) (f : Nat → Value) : Prop := ∃ arr : Array Value, w.heap[b]? = some (.cells arr t (0, 0)) ∧ arr.size = n ∧ ∀ k, k < n → arr[k]? = some (f k)

section
variable {w w' : World} {b n : Nat} {t : TypeId} {f : Nat → Value}
theorem RowF.rowB (h : RowF w b t n f) : RowB w b t n := by
  obtain ⟨arr, h1, h2, _⟩ := h
  exact ⟨arr, h1, h2⟩
theorem RowB.cell (h : RowB w b t n) (k : Nat) (hk : k < n) : ∃ v, w.cell? ⟨b, k, none⟩ = some v := by
  obtain ⟨arr, h1, h2⟩ := h
  exact ⟨arr[k]'(by omega), cellOf h1 k _ (by simp)⟩
theorem RowF.cell (h : RowF w b t n f) (k : Nat) (hk : k < n) : w.cell? ⟨b, k, none⟩ = some (f k) := by
  obtain ⟨arr, h1, h2, h3⟩ := h
  exact cellOf h1 k _ (h3 k hk)
theorem RowB.frozen (h : RowB w b t n) (k : Nat) : w.frozen? ⟨b, k, none⟩ = false := by
  obtain ⟨arr, h1, _⟩ := h
  simp [World.frozen?, h1]
theorem RowB.lt (h : RowB w b t n) : b < w.heap.size := by
  obtain ⟨arr, h1, _⟩ := h
  exact lt_of_block h1
theorem RowB.set (h : RowB w b t n) (k : Nat) (v : Value) : RowB (w.setCell ⟨b, k, none⟩ v) b t n := by
  obtain ⟨arr, h1, h2⟩ := h
  exact ⟨_, heap_setCell_same w b k arr t v h1, by simpa using h2⟩
theorem RowF.set (h : RowF w b t n f) (k : Nat) (v : Value) (g : Nat → Value) (hk : k < n) (hg : g k = v) (ho : ∀ j, j < n → j ≠ k → g j = f j) : RowF (w.setCell ⟨b, k, none⟩ v) b t n g := by
  obtain ⟨arr, h1, h2, h3⟩ := h
  refine ⟨_, heap_setCell_same w b k arr t v h1, by simpa using h2, fun j hj => ?_⟩
  rw [Array.getElem?_setIfInBounds]
  by_cases e : k = j
  · subst e
    rw [if_pos rfl, if_pos (by omega), hg]
  · rw [if_neg e, h3 j hj, ho j hj (Ne.symm e)]
theorem RowB.block (h : RowB w b t n) (e : w'.heap[b]? = w.heap[b]?) : RowB w' b t n := by
  obtain ⟨arr, h1, h2⟩ := h
  exact ⟨arr, e.trans h1, h2⟩
theorem RowF.block (h : RowF w b t n f) (e : w'.heap[b]? = w.heap[b]?) : RowF w' b t n f := by
  obtain ⟨arr, h1, h2⟩ := h
  exact ⟨arr, e.trans h1, h2⟩
theorem RowF.turn (h : RowF w b t n f) (g : Nat → Value) (hg : ∀ k, k < n → g k = f k) : RowF w b t n g := by
  obtain ⟨arr, h1, h2, h3⟩ := h
  exact ⟨arr, h1, h2, fun k hk => by rw [h3 k hk, hg k hk]⟩
theorem RowB.grown {row : Option Nat} (h : RowB w b t n) (hg : w.grownBy w' row) (hr : some b ≠ row) : RowB w' b t n := h.block (hg.block b h.lt hr)
theorem RowF.grown {row : Option Nat} (h : RowF w b t n f) (hg : w.grownBy w' row) (hr : some b ≠ row) : RowF w' b t n f := h.block (hg.block b h.rowB.lt hr)
end
end Go.Proofs.Ybulkeidm
