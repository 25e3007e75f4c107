/-
  ROWS OF POINTERS IN MEMORY, and the plain insertion sort that Go's text carries out.
-/
import Derived.Test.YbulkeidmLeaf
import Derived.Maps.AppendAt
import Derived.Deep.AppendLies
namespace Go.Proofs.Ybulkeidm
open Go.RowKit

/-- A pointer to the head of a block. -/
abbrev ptr (d : Nat) : Value := .pointer (some ⟨d, 0, none⟩)

/-- Block g holds pointers to the blocks L (and whatever behind them). -/
def PRow (w : World) (g : Nat) (L : List Nat) : Prop := ∃ sp : List Value, w.heap[g]? = some (.cells (L.map ptr ++ sp).toArray 47 (0, 0))

theorem PRow.cell {w : World} {g : Nat} {L : List Nat} (h : PRow w g L) (j : Nat) (hj : j < L.length) : w.cell? ⟨g, j, none⟩ = some (ptr L[j]) := by
  obtain ⟨sp, h⟩ := h
  have := World.news_of_block h j (ptr L[j]) (by simp [List.getElem?_append, hj])
  rw [Go.WideShapes.add_plain, Nat.zero_add] at this
  exact this

theorem PRow.frozen {w : World} {g : Nat} {L : List Nat} (h : PRow w g L) (j : Nat) : w.frozen? ⟨g, j, none⟩ = false := by
  obtain ⟨sp, h⟩ := h
  simp [World.frozen?, h]

theorem PRow.lt {w : World} {g : Nat} {L : List Nat} (h : PRow w g L) : g < w.heap.size := by
  obtain ⟨sp, h⟩ := h
  rcases Nat.lt_or_ge g w.heap.size with h1 | h1
  · exact h1
  · rw [Array.getElem?_eq_none h1] at h; cases h

theorem heap_setCell_same (w : World) (g j : Nat) (cs : Array Value) (t : TypeId) (v : Value) (h : w.heap[g]? = some (.cells cs t (0, 0))) : (w.setCell ⟨g, j, none⟩ v).heap[g]? = some (.cells (cs.setIfInBounds j v) t (0, 0)) := by
  simp only [World.setCell, Array.getElem?_modify, if_true, h]
  rfl

theorem PRow.set {w : World} {g : Nat} {L : List Nat} (h : PRow w g L) (j d : Nat) (hj : j < L.length) : PRow (w.setCell ⟨g, j, none⟩ (ptr d)) g (L.set j d) := by
  obtain ⟨sp, h⟩ := h
  refine ⟨sp, ?_⟩
  rw [heap_setCell_same w g j _ 47 (ptr d) h]
  congr 2
  simp [hj, List.map_set]

theorem PRow.block {w w' : World} {g : Nat} {L : List Nat} (h : PRow w g L) (e : w'.heap[g]? = w.heap[g]?) : PRow w' g L := by
  obtain ⟨sp, h⟩ := h
  exact ⟨sp, e.trans h⟩

theorem grown_setCell (w : World) (g j : Nat) (v : Value) : w.grownBy (w.setCell ⟨g, j, none⟩ v) (some g) :=
  ⟨rfl, rfl, rfl, by simp [World.setCell], fun k _ hk => Below.heap_setCell w ⟨g, j, none⟩ v k (fun e => hk (by rw [e]))⟩

theorem grown_below {w w' : World} (g : Nat) (h : Below w.heap.size w w') : w.grownBy w' (some g) :=
  ⟨h.os, h.tape, h.output, h.size, fun k hk _ => h.block k hk⟩

theorem grown_drewN (w : World) (q : Nat) (r : Option Nat) : w.grownBy (w.drewN q) r := ⟨rfl, rfl, rfl, Nat.le_refl _, fun _ _ _ => rfl⟩
theorem grown_drew (w : World) (r : Option Nat) : w.grownBy w.drew r := ⟨rfl, rfl, rfl, Nat.le_refl _, fun _ _ _ => rfl⟩

/-- A read's key, in blocks other than g. -/
structure KeyG (w : World) (g d : Nat) (f l : Int) : Prop where
  ex : ∃ e, d ≠ g ∧ e ≠ g ∧ w.cell? ⟨d, 0, none⟩ = some (.pointer (some ⟨e, 0, none⟩)) ∧ w.cell? ⟨e, 0, none⟩ = some (.int .i64 f) ∧ w.cell? ⟨e, 1, none⟩ = some (.int .i64 l)

theorem KeyG.key {w : World} {g d : Nat} {f l : Int} (h : KeyG w g d f l) : Key w d f l := by
  obtain ⟨e, _, _, h1, h2, h3⟩ := h.ex
  exact ⟨e, h1, h2, h3⟩

theorem KeyG.grown {w w' : World} {g d : Nat} {f l : Int} (h : KeyG w g d f l) (hg : w.grownBy w' (some g)) : KeyG w' g d f l := by
  obtain ⟨e, n1, n2, h1, h2, h3⟩ := h.ex
  refine ⟨e, n1, n2, ?_, ?_, ?_⟩
  · exact hg.cell h1 (fun x => n1 (Option.some.inj x))
  · exact hg.cell h2 (fun x => n2 (Option.some.inj x))
  · exact hg.cell h3 (fun x => n2 (Option.some.inj x))

/-! ### The plain insertion sort -/
section
variable {α : Type} (lt : α → α → Bool)
/-- x is put into a row that is read from its end: past all that x is less than. -/
def insRev (x : α) : List α → List α
  | [] => [x]
  | y :: r => if lt x y then y :: insRev x r else x :: y :: r
/-- The row, from its end, behind all insertions. -/
def isortRev : List α → List α → List α
  | acc, [] => acc
  | acc, x :: l => isortRev (insRev lt x acc) l
def isort (l : List α) : List α := (isortRev lt [] l).reverse

theorem insRev_length (x : α) (l : List α) : (insRev lt x l).length = l.length + 1 := by
  induction l with
  | nil => rfl
  | cons y r ih => unfold insRev; split <;> simp [ih]
theorem isortRev_length (acc l : List α) : (isortRev lt acc l).length = acc.length + l.length := by
  induction l generalizing acc with
  | nil => rfl
  | cons x l ih => rw [isortRev, ih, insRev_length]; simp; omega
theorem isort_length (l : List α) : (isort lt l).length = l.length := by simp [isort, isortRev_length]
theorem isortRev_snoc (acc l : List α) (x : α) : isortRev lt acc (l ++ [x]) = insRev lt x (isortRev lt acc l) := by
  induction l generalizing acc with
  | nil => rfl
  | cons y l ih => exact ih _
theorem isort_snoc (l : List α) (x : α) : isort lt (l ++ [x]) = (insRev lt x (isort lt l).reverse).reverse := by
  simp [isort, isortRev_snoc]
theorem isort_nil : isort lt ([] : List α) = [] := rfl
theorem isort_one (x : α) : isort lt [x] = [x] := rfl
end

/-- The middle of a row sorted, what lies before and behind as it was. -/
def isortSeg (lt : Nat → Nat → Bool) (a b : Nat) (L : List Nat) : List Nat := L.take a ++ isort lt ((L.take b).drop a) ++ L.drop b

theorem isortSeg_length (lt : Nat → Nat → Bool) (a b : Nat) (L : List Nat) (h1 : a ≤ b) (h2 : b ≤ L.length) : (isortSeg lt a b L).length = L.length := by
  simp [isortSeg, isort_length]; omega

theorem isortSeg_start (lt : Nat → Nat → Bool) (a : Nat) (L : List Nat) (h2 : a < L.length) : isortSeg lt a (a + 1) L = L := by
  have e : (L.take (a + 1)).drop a = [L[a]] := by
    rw [List.drop_take, List.drop_eq_getElem_cons h2, show a + 1 - a = 1 from by omega]
    rfl
  rw [isortSeg, e, isort_one]
  conv => rhs; rw [← List.take_append_drop a L, List.drop_eq_getElem_cons h2]
  simp

/-- One more element taken in. -/
theorem isortSeg_succ (lt : Nat → Nat → Bool) (a i : Nat) (L : List Nat) (h1 : a ≤ i) (h2 : i < L.length) :
    isortSeg lt a (i + 1) L = L.take a ++ (insRev lt L[i] (isort lt ((L.take i).drop a)).reverse).reverse ++ L.drop (i + 1) := by
  have e : (L.take (i + 1)).drop a = (L.take i).drop a ++ [L[i]] := by
    rw [List.take_succ_eq_append_getElem h2, List.drop_append]
    have : a - (L.take i).length = 0 := by rw [List.length_take]; omega
    rw [this, List.drop_zero]
  rw [isortSeg, e, isort_snoc]

/-- The row while x is on its way: P before it, S behind it. -/
theorem set_swap (pre P S post : List Nat) (x y j : Nat) (hj : j = pre.length + P.length + 1) :
    (((pre ++ (P ++ [y]) ++ x :: S ++ post).set j y).set (j - 1) x) = pre ++ P ++ x :: (y :: S) ++ post := by
  subst hj
  have e1 : pre ++ (P ++ [y]) ++ x :: S ++ post = (pre ++ P) ++ (y :: x :: (S ++ post)) := by simp
  rw [e1, List.set_append_right _ _ (by simp)]
  have e2 : pre.length + P.length + 1 - (pre ++ P).length = 1 := by simp
  rw [e2, List.set_append_right _ _ (by simp)]
  have e3 : pre.length + P.length + 1 - 1 - (pre ++ P).length = 0 := by simp
  rw [e3]
  simp

end Go.Proofs.Ybulkeidm
