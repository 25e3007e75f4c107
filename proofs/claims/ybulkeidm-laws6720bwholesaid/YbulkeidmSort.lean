/-
  THE PLAIN LAWS OF STABLE SORTING: an order by a key with ties by place; insertion sort sorts; a sorted permutation is unique. No Go in sight.
-/
import Derived.Test.YbulkeidmIns
namespace Go.Proofs.Ybulkeidm

/-- A strict weak order. -/
structure Swo (lt : Nat → Nat → Bool) : Prop where
  asymm : ∀ x y, lt x y = true → lt y x = false
  neg : ∀ x y z, lt x y = false → lt y z = false → lt x z = false

theorem Swo.trans {lt : Nat → Nat → Bool} (h : Swo lt) (x y z : Nat) (h1 : lt x y = true) (h2 : lt y z = true) : lt x z = true := by
  rcases Bool.eq_false_or_eq_true (lt x z) with e | e
  · exact e
  · have h3 := h.asymm _ _ h2
    have h4 := h.neg x z y e h3
    rw [h1] at h4; cases h4
/-- x < y, y <= z. -/
theorem Swo.lt_le {lt : Nat → Nat → Bool} (h : Swo lt) (x y z : Nat) (h1 : lt x y = true) (h2 : lt z y = false) : lt x z = true := by
  rcases Bool.eq_false_or_eq_true (lt x z) with e | e
  · exact e
  · have h4 := h.neg x z y e h2
    rw [h1] at h4; cases h4
theorem Swo.le_lt {lt : Nat → Nat → Bool} (h : Swo lt) (x y z : Nat) (h1 : lt y x = false) (h2 : lt y z = true) : lt x z = true := by
  rcases Bool.eq_false_or_eq_true (lt x z) with e | e
  · exact e
  · have h4 := h.neg y x z h1 e
    rw [h2] at h4; cases h4

theorem lessEv_swo (kf kl : Nat → Int) : Swo (ltd kf kl) := by
  constructor
  · intro x y h
    simp only [ltd, lessEv] at h ⊢
    split at h <;> split <;> simp at h ⊢ <;> omega
  · intro x y z h1 h2
    simp only [ltd, lessEv] at h1 h2 ⊢
    split at h1 <;> split at h2 <;> split <;> simp at h1 h2 ⊢ <;> omega

/-- By the key, ties by place. -/
def lt' (lt : Nat → Nat → Bool) (idx : Nat → Nat) (x y : Nat) : Prop := lt x y = true ∨ (lt y x = false ∧ idx x < idx y)

theorem insRev_perm (lt : Nat → Nat → Bool) (x : Nat) : ∀ (acc : List Nat), (insRev lt x acc).Perm (x :: acc)
  | [] => List.Perm.refl _
  | y :: r => by
    unfold insRev
    split
    · exact ((insRev_perm lt x r).cons y).trans (List.Perm.swap x y r)
    · exact List.Perm.refl _
theorem insRev_mem (lt : Nat → Nat → Bool) (x : Nat) (acc : List Nat) (z : Nat) : z ∈ insRev lt x acc ↔ z = x ∨ z ∈ acc := by
  rw [(insRev_perm lt x acc).mem_iff, List.mem_cons]
theorem isortRev_perm (lt : Nat → Nat → Bool) : ∀ (l acc : List Nat), (isortRev lt acc l).Perm (l ++ acc)
  | [], _ => List.Perm.refl _
  | x :: l, acc => by
    rw [isortRev]
    refine (isortRev_perm lt l _).trans ?_
    refine ((insRev_perm lt x acc).append_left l).trans ?_
    exact List.perm_middle
theorem isort_perm (lt : Nat → Nat → Bool) (l : List Nat) : (isort lt l).Perm l := by
  refine (List.reverse_perm _).trans ?_
  simpa using isortRev_perm lt l []

section
variable {lt : Nat → Nat → Bool} {idx : Nat → Nat}
theorem lt'_trans (hs : Swo lt) (x y z : Nat) (h1 : lt' lt idx x y) (h2 : lt' lt idx y z) : lt' lt idx x z := by
  rcases h1 with h1 | ⟨h1, i1⟩
  · rcases h2 with h2 | ⟨h2, i2⟩
    · exact .inl (hs.trans x y z h1 h2)
    · exact .inl (hs.lt_le x y z h1 h2)
  · rcases h2 with h2 | ⟨h2, i2⟩
    · exact .inl (hs.le_lt x y z h1 h2)
    · exact .inr ⟨hs.neg z y x h2 h1, by omega⟩
theorem lt'_asymm (hs : Swo lt) (x y : Nat) (h1 : lt' lt idx x y) (h2 : lt' lt idx y x) : False := by
  rcases h1 with h1 | ⟨h1, i1⟩
  · rcases h2 with h2 | ⟨h2, i2⟩
    · rw [hs.asymm _ _ h1] at h2; cases h2
    · rw [h1] at h2; cases h2
  · rcases h2 with h2 | ⟨h2, i2⟩
    · rw [h1] at h2; cases h2
    · omega
/-- A sorted permutation is unique. -/
theorem sorted_unique (hs : Swo lt) {a b : List Nat} (hp : a.Perm b) (ha : a.Pairwise (lt' lt idx)) (hb : b.Pairwise (lt' lt idx)) : a = b :=
  hp.eq_of_pairwise (fun x y _ _ h1 h2 => absurd h2 (fun h2 => lt'_asymm hs x y h1 h2)) ha hb

theorem insRev_sorted (hs : Swo lt) (x : Nat) : ∀ (acc : List Nat), acc.Pairwise (fun a b => lt' lt idx b a) → (∀ y ∈ acc, idx y < idx x) → (insRev lt x acc).Pairwise (fun a b => lt' lt idx b a)
  | [], _, _ => by simp [insRev]
  | y :: r, h, hi => by
    rw [List.pairwise_cons] at h
    unfold insRev
    by_cases hx : lt x y = true
    · rw [if_pos hx, List.pairwise_cons]
      refine ⟨?_, insRev_sorted hs x r h.2 (fun z hz => hi z (List.mem_cons_of_mem _ hz))⟩
      intro z hz
      have hz' : z = x ∨ z ∈ r := by
        have := (insRev_mem lt x r z).1 hz
        exact this
      rcases hz' with rfl | hz'
      · exact .inl hx
      · exact h.1 z hz'
    · rw [if_neg hx, List.pairwise_cons]
      have hyx : lt' lt idx y x := .inr ⟨by simpa using hx, hi y (List.mem_cons_self ..)⟩
      refine ⟨?_, List.pairwise_cons.2 h⟩
      intro z hz
      rcases List.mem_cons.1 hz with rfl | hz
      · exact hyx
      · exact lt'_trans hs z y x (h.1 z hz) hyx

theorem isortRev_sorted (hs : Swo lt) : ∀ (l acc : List Nat), acc.Pairwise (fun a b => lt' lt idx b a) → (∀ y ∈ acc, ∀ x ∈ l, idx y < idx x) → l.Pairwise (fun a b => idx a < idx b) → (isortRev lt acc l).Pairwise (fun a b => lt' lt idx b a)
  | [], _, h, _, _ => h
  | x :: l, acc, h, hi, hl => by
    rw [List.pairwise_cons] at hl
    refine isortRev_sorted hs l _ (insRev_sorted hs x acc h (fun y hy => hi y hy x (List.mem_cons_self ..))) ?_ hl.2
    intro y hy z hz
    rcases (insRev_mem lt x acc y).1 hy with rfl | hy
    · exact hl.1 z hz
    · exact hi y hy z (List.mem_cons_of_mem _ hz)
/-- The insertion sort of a row whose places rise is sorted, ties by place. -/
theorem isort_sorted (hs : Swo lt) (l : List Nat) (hl : l.Pairwise (fun a b => idx a < idx b)) : (isort lt l).Pairwise (lt' lt idx) := by
  unfold isort
  rw [List.pairwise_reverse]
  exact isortRev_sorted hs l [] List.Pairwise.nil (by simp) hl

end
end Go.Proofs.Ybulkeidm
