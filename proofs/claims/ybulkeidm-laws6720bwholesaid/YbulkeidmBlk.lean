/-
  THE PLAIN LAW OF slices.stable: sorted blocks, doubled. No Go in sight.
-/
import Derived.Test.YbulkeidmMerge
namespace Go.Proofs.Ybulkeidm

/-- The first t blocks of length bs, each sorted. -/
def don (lt : Nat → Nat → Bool) (bs : Nat) : Nat → List Nat → List Nat
  | 0, _ => []
  | t + 1, X => don lt bs t X ++ isort lt ((X.drop (t * bs)).take bs)

section
variable {lt : Nat → Nat → Bool} {idx : Nat → Nat}

theorem isort_len (X : List Nat) : (isort lt X).length = X.length := (isort_perm lt X).length_eq

theorem don_len (bs t : Nat) (X : List Nat) : (don lt bs t X).length = min (t * bs) X.length := by
  induction t with
  | zero => simp [don]
  | succ t ih => rw [don, List.length_append, ih, isort_len, List.length_take, List.length_drop, Nat.succ_mul]; omega

theorem don_cons (bs t : Nat) (X : List Nat) : don lt bs (t + 1) X = isort lt (X.take bs) ++ don lt bs t (X.drop bs) := by
  induction t with
  | zero => simp [don]
  | succ t ih =>
    rw [don, ih, don, List.append_assoc]
    congr 3
    rw [List.drop_drop, Nat.succ_mul, Nat.add_comm]

theorem don_nil (bs t : Nat) : don lt bs t [] = [] := by
  have := don_len (lt := lt) bs t []
  simp at this
  exact this

theorem don_small (bs t : Nat) (Z : List Nat) (h : Z.length ≤ bs) (ht : Z.length ≤ t * bs) : don lt bs t Z = isort lt Z := by
  cases t with
  | zero =>
    simp at ht
    subst ht; rfl
  | succ t =>
    rw [don_cons, List.take_of_length_le h, List.drop_eq_nil_of_le h, don_nil, List.append_nil]

/-- Two sorted pieces, merged. -/
theorem merged_isort (hs : Swo lt) (U V R : List Nat) (hU : (U ++ V).Pairwise (fun a b => idx a < idx b)) (hm : Merged lt idx (isort lt U) (isort lt V) R) : R = isort lt (U ++ V) :=
  sorted_unique hs (hm.perm.trans (((isort_perm lt U).append (isort_perm lt V)).trans (isort_perm lt (U ++ V)).symm)) hm.sorted (isort_sorted hs _ hU)

theorem runs_isort (hs : Swo lt) (U V : List Nat) (hU : (U ++ V).Pairwise (fun a b => idx a < idx b)) : Runs lt idx (isort lt U) (isort lt V) := by
  obtain ⟨h1, h2, h3⟩ := List.pairwise_append.1 hU
  exact ⟨isort_sorted hs _ h1, isort_sorted hs _ h2, fun x hx y hy => h3 x ((isort_perm lt U).mem_iff.1 hx) y ((isort_perm lt V).mem_iff.1 hy)⟩

/-- One more block sorted, the rest as it was. -/
theorem don_seg (bs t : Nat) (X : List Nat) (ht : t * bs ≤ X.length) (b : Nat) (hb : b = min (t * bs + bs) X.length) :
    isortSeg lt (t * bs) b (don lt bs t X ++ X.drop (t * bs)) = don lt bs (t + 1) X ++ X.drop (t * bs + bs) := by
  have hl : (don lt bs t X).length = t * bs := by rw [don_len]; omega
  have e1 : (don lt bs t X ++ X.drop (t * bs)).take (t * bs) = don lt bs t X := by rw [List.take_append_of_le_length (by omega), List.take_of_length_le (by omega)]
  have e2 : (don lt bs t X ++ X.drop (t * bs)).take b = don lt bs t X ++ (X.drop (t * bs)).take bs := by
    rw [List.take_append, hl, List.take_of_length_le (by omega)]
    congr 1
    by_cases h : t * bs + bs ≤ X.length
    · congr 1; omega
    · rw [List.take_of_length_le (by simp; omega), List.take_of_length_le (by simp; omega)]
  have e3 : (don lt bs t X ++ X.drop (t * bs)).drop b = X.drop (t * bs + bs) := by
    rw [List.drop_append, hl, List.drop_eq_nil_of_le (by omega), List.nil_append, List.drop_drop]
    by_cases h : t * bs + bs ≤ X.length
    · congr 1; omega
    · rw [List.drop_eq_nil_of_le (by omega), List.drop_eq_nil_of_le (by omega)]
  rw [isortSeg, e1, e2, e3, List.drop_append, hl, List.drop_eq_nil_of_le (by omega), Nat.sub_self, List.drop_zero, List.nil_append, don]

theorem isortSeg_none (a : Nat) (L : List Nat) (h : a ≤ L.length) : isortSeg lt a a L = L := by
  rw [isortSeg, List.drop_eq_nil_of_le (by simp; omega), isort_nil, List.append_nil, List.take_append_drop]

/-- What lies behind the t great blocks: two small ones, and the rest. -/
theorem don_two (bs T : Nat) (Z : List Nat) (hb : 0 < bs) (h : bs < Z.length) (hT : Z.length ≤ T * bs) :
    ∃ T', don lt bs T Z = isort lt (Z.take bs) ++ isort lt ((Z.drop bs).take bs) ++ don lt bs T' (Z.drop (2 * bs)) ∧ (Z.drop (2 * bs)).length ≤ T' * bs := by
  match T with
  | 0 => omega
  | 1 => omega
  | T + 2 =>
    refine ⟨T, ?_, ?_⟩
    · rw [don_cons, don_cons, List.append_assoc, List.drop_drop, Nat.two_mul]
    · rw [List.length_drop]
      have : (T + 2) * bs = T * bs + 2 * bs := by rw [Nat.add_mul]
      omega

theorem take_two (bs : Nat) (Z : List Nat) : Z.take bs ++ (Z.drop bs).take bs = Z.take (2 * bs) := by
  rw [Nat.two_mul, List.take_add]

/-- The next great block is done. -/
theorem don_step (bs t : Nat) (X : List Nat) : don lt (2 * bs) t X ++ isort lt ((X.drop (t * (2 * bs))).take bs ++ ((X.drop (t * (2 * bs))).drop bs).take bs) = don lt (2 * bs) (t + 1) X := by
  rw [take_two, don]
end
end Go.Proofs.Ybulkeidm
