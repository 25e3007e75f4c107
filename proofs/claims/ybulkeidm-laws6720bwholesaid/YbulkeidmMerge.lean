/-
  THE PLAIN LAWS OF symMerge: two sorted runs side by side; what the binary searches find; the halves. No Go in sight.
-/
import Derived.Test.YbulkeidmSort
namespace Go.Proofs.Ybulkeidm

theorem all_of_ends {R : Nat → Nat → Prop} (ht : ∀ x y z, R x y → R y z → R x z) {X Y : List Nat} (hX : X.Pairwise R) (hY : Y.Pairwise R)
    (he : ∀ x y, X.getLast? = some x → Y.head? = some y → R x y) : ∀ x ∈ X, ∀ y ∈ Y, R x y := by
  intro x hx y hy
  cases Y with
  | nil => cases hy
  | cons y0 Y =>
    rcases List.eq_nil_or_concat X with rfl | ⟨X', l, rfl⟩
    · cases hx
    · rw [List.concat_eq_append] at hX hx he
      have h0 : R l y0 := he l y0 (by simp) rfl
      have hxl : x = l ∨ R x l := by
        rcases List.mem_append.1 hx with h | h
        · exact .inr ((List.pairwise_append.1 hX).2.2 x h l (by simp))
        · exact .inl (by simpa using h)
      have hyl : y = y0 ∨ R y0 y := by
        rcases List.mem_cons.1 hy with h | h
        · exact .inl h
        · exact .inr ((List.pairwise_cons.1 hY).1 y h)
      have hxy0 : R x y0 := by
        rcases hxl with rfl | h
        · exact h0
        · exact ht _ _ _ h h0
      rcases hyl with rfl | h
      · exact hxy0
      · exact ht _ _ _ hxy0 h

theorem pairwise_join {R : Nat → Nat → Prop} {X Y : List Nat} (hX : X.Pairwise R) (hY : Y.Pairwise R) (h : ∀ x ∈ X, ∀ y ∈ Y, R x y) : (X ++ Y).Pairwise R :=
  List.pairwise_append.2 ⟨hX, hY, h⟩

/-- Two runs side by side, as symMerge is handed them. -/
structure Runs (lt : Nat → Nat → Bool) (idx : Nat → Nat) (P Q : List Nat) : Prop where
  left : P.Pairwise (lt' lt idx)
  right : Q.Pairwise (lt' lt idx)
  place : ∀ x ∈ P, ∀ y ∈ Q, idx x < idx y

/-- What it leaves. -/
structure Merged (lt : Nat → Nat → Bool) (idx : Nat → Nat) (P Q R : List Nat) : Prop where
  perm : R.Perm (P ++ Q)
  sorted : R.Pairwise (lt' lt idx)

section
variable {lt : Nat → Nat → Bool} {idx : Nat → Nat}
theorem getLast_take (Q : List Nat) (s : Nat) (hs : s ≤ Q.length) (q : Nat) (h : (Q.take s).getLast? = some q) : ∃ h0 : 0 < s, Q[s - 1]'(by omega) = q := by
  rcases Nat.eq_zero_or_pos s with rfl | h0
  · simp at h
  · refine ⟨h0, ?_⟩
    rw [List.getLast?_eq_getElem?] at h
    simp only [List.length_take, Nat.min_eq_left hs] at h
    rw [List.getElem?_take, if_pos (by omega)] at h
    rw [List.getElem_eq_iff]; exact h
theorem head_drop (Q : List Nat) (s : Nat) (q : Nat) (h : (Q.drop s).head? = some q) : ∃ h0 : s < Q.length, Q[s] = q := by
  rw [List.head?_drop] at h
  obtain ⟨h0, h1⟩ := List.getElem?_eq_some_iff.1 h
  exact ⟨h0, h1⟩

/-- One element into the run behind it. -/
theorem merge_left (hs : Swo lt) (x : Nat) (Q : List Nat) (s : Nat) (hsl : s ≤ Q.length) (hr : Runs lt idx [x] Q)
    (h1 : ∀ h0 : 0 < s, lt (Q[s - 1]'(by omega)) x = true) (h2 : ∀ h0 : s < Q.length, lt Q[s] x = false) : Merged lt idx [x] Q (Q.take s ++ x :: Q.drop s) := by
  have hp : (Q.take s ++ x :: Q.drop s).Perm ([x] ++ Q) := by
    refine List.perm_middle.trans ?_
    rw [List.take_append_drop]
    exact List.Perm.refl _
  refine ⟨hp, ?_⟩
  have hsp := hr.right
  rw [← List.take_append_drop s Q] at hsp
  obtain ⟨s1, s2, s12⟩ := List.pairwise_append.1 hsp
  have e1 : ∀ q ∈ Q.take s, ∀ y ∈ [x], lt' lt idx q y := all_of_ends (lt'_trans hs) s1 (by simp) (fun q y hq hy => by
    obtain ⟨h0, rfl⟩ := getLast_take Q s hsl q hq
    simp at hy; subst hy
    exact .inl (h1 h0))
  have e2 : ∀ y ∈ [x], ∀ q ∈ Q.drop s, lt' lt idx y q := all_of_ends (lt'_trans hs) (by simp) s2 (fun y q hy hq => by
    obtain ⟨h0, rfl⟩ := head_drop Q s q hq
    simp at hy; subst hy
    exact .inr ⟨h2 h0, hr.place x (by simp) _ (List.getElem_mem _)⟩)
  refine pairwise_join s1 (List.pairwise_cons.2 ⟨fun q hq => e2 x (by simp) q hq, s2⟩) ?_
  intro q hq y hy
  rcases List.mem_cons.1 hy with rfl | hy
  · exact e1 q hq y (by simp)
  · exact s12 q hq y hy

/-- One element into the run before it. -/
theorem merge_right (hs : Swo lt) (y : Nat) (P : List Nat) (s : Nat) (hsl : s ≤ P.length) (hr : Runs lt idx P [y])
    (h1 : ∀ h0 : 0 < s, lt y (P[s - 1]'(by omega)) = false) (h2 : ∀ h0 : s < P.length, lt y P[s] = true) : Merged lt idx P [y] (P.take s ++ y :: P.drop s) := by
  have hp : (P.take s ++ y :: P.drop s).Perm (P ++ [y]) := by
    refine List.perm_middle.trans ?_
    rw [List.take_append_drop]
    exact (List.perm_append_comm (l₁ := [y]) (l₂ := P))
  refine ⟨hp, ?_⟩
  have hsp := hr.left
  rw [← List.take_append_drop s P] at hsp
  obtain ⟨s1, s2, s12⟩ := List.pairwise_append.1 hsp
  have e1 : ∀ q ∈ P.take s, ∀ z ∈ [y], lt' lt idx q z := all_of_ends (lt'_trans hs) s1 (by simp) (fun q z hq hz => by
    obtain ⟨h0, rfl⟩ := getLast_take P s hsl q hq
    simp at hz; subst hz
    exact .inr ⟨h1 h0, hr.place _ (List.getElem_mem _) y (by simp)⟩)
  have e2 : ∀ z ∈ [y], ∀ q ∈ P.drop s, lt' lt idx z q := all_of_ends (lt'_trans hs) (by simp) s2 (fun z q hz hq => by
    obtain ⟨h0, rfl⟩ := head_drop P s q hq
    simp at hz; subst hz
    exact .inl (h2 h0))
  refine pairwise_join s1 (List.pairwise_cons.2 ⟨fun q hq => e2 y (by simp) q hq, s2⟩) ?_
  intro q hq z hz
  rcases List.mem_cons.1 hz with rfl | hz
  · exact e1 q hq z (by simp)
  · exact s12 q hq z hz

/-- The halves: what was found makes each a pair of runs, and all of the left less than all of the right. -/
theorem merge_halves (hs : Swo lt) (P Q : List Nat) (s e : Nat) (hsl : s ≤ P.length) (hel : e ≤ Q.length) (hr : Runs lt idx P Q)
    (h1 : ∀ (a : 0 < s) (b : e < Q.length), lt Q[e] (P[s - 1]'(by omega)) = false) (h2 : ∀ (a : s < P.length) (b : 0 < e), lt (Q[e - 1]'(by omega)) P[s] = true)
    {R1 R2 : List Nat} (m1 : Merged lt idx (P.take s) (Q.take e) R1) (m2 : Merged lt idx (P.drop s) (Q.drop e) R2) : Merged lt idx P Q (R1 ++ R2) := by
  have hp := hr.left
  have hq := hr.right
  rw [← List.take_append_drop s P] at hp
  rw [← List.take_append_drop e Q] at hq
  obtain ⟨p1, p2, p12⟩ := List.pairwise_append.1 hp
  obtain ⟨q1, q2, q12⟩ := List.pairwise_append.1 hq
  have a1 : ∀ u ∈ P.take s, ∀ v ∈ Q.drop e, lt' lt idx u v := all_of_ends (lt'_trans hs) p1 q2 (fun u v hu hv => by
    obtain ⟨h0, rfl⟩ := getLast_take P s hsl u hu
    obtain ⟨h3, rfl⟩ := head_drop Q e v hv
    exact .inr ⟨h1 h0 h3, hr.place _ (List.getElem_mem _) _ (List.getElem_mem _)⟩)
  have a2 : ∀ v ∈ Q.take e, ∀ u ∈ P.drop s, lt' lt idx v u := all_of_ends (lt'_trans hs) q1 p2 (fun v u hv hu => by
    obtain ⟨h0, rfl⟩ := getLast_take Q e hel v hv
    obtain ⟨h3, rfl⟩ := head_drop P s u hu
    exact .inl (h2 h3 h0))
  refine ⟨?_, pairwise_join m1.sorted m2.sorted ?_⟩
  · refine (m1.perm.append m2.perm).trans ?_
    have e1 : P ++ Q = (P.take s ++ P.drop s) ++ (Q.take e ++ Q.drop e) := by rw [List.take_append_drop, List.take_append_drop]
    rw [e1, List.append_assoc, List.append_assoc]
    refine List.Perm.append_left _ ?_
    rw [← List.append_assoc, ← List.append_assoc]
    exact List.Perm.append_right _ List.perm_append_comm
  · intro x hx y hy
    rw [m1.perm.mem_iff, List.mem_append] at hx
    rw [m2.perm.mem_iff, List.mem_append] at hy
    rcases hx with hx | hx <;> rcases hy with hy | hy
    · exact p12 x hx y hy
    · exact a1 x hx y hy
    · exact a2 x hx y hy
    · exact q12 x hx y hy

theorem Runs.takes {P Q : List Nat} (h : Runs lt idx P Q) (s e : Nat) : Runs lt idx (P.take s) (Q.take e) :=
  ⟨h.left.sublist (List.take_sublist ..), h.right.sublist (List.take_sublist ..), fun x hx y hy => h.place x (List.mem_of_mem_take hx) y (List.mem_of_mem_take hy)⟩
theorem Runs.drops {P Q : List Nat} (h : Runs lt idx P Q) (s e : Nat) : Runs lt idx (P.drop s) (Q.drop e) :=
  ⟨h.left.sublist (List.drop_sublist ..), h.right.sublist (List.drop_sublist ..), fun x hx y hy => h.place x (List.mem_of_mem_drop hx) y (List.mem_of_mem_drop hy)⟩
theorem merged_left {P : List Nat} (h : P.Pairwise (lt' lt idx)) : Merged lt idx P [] P := ⟨by simp, h⟩
theorem merged_right {Q : List Nat} (h : Q.Pairwise (lt' lt idx)) : Merged lt idx [] Q Q := ⟨by simp, h⟩
end
end Go.Proofs.Ybulkeidm
