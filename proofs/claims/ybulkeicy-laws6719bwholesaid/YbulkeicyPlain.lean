/-
  THE PLAIN PART of LawS6719BWhole: records and what they carry, said of lists of numbers. No Go in sight.
-/
namespace Go.Proofs.Ybulkeicy

/-- The header of a record that carries m bytes. -/
def hdr (m : Nat) : List Int := [22, 3, 1, (m : Int) / 256, (m : Int) % 256]
/-- Whole records. -/
def recsOf (T : List (List Int)) : List Int := T.flatMap fun p => hdr p.length ++ p
/-- What they carry. -/
def flatOf (T : List (List Int)) : List Int := T.flatten
/-- A payload, cut to what a record can carry. -/
def cutTo (p : List Int) : List Int := p.take 65535

theorem hdr_len (m : Nat) : (hdr m).length = 5 := rfl
theorem cutTo_len (p : List Int) : (cutTo p).length = min p.length 65535 := by simp [cutTo, Nat.min_comm]

theorem recsOf_append (a b : List (List Int)) : recsOf (a ++ b) = recsOf a ++ recsOf b := by simp [recsOf]
theorem recsOf_one (p : List Int) : recsOf [p] = hdr p.length ++ p := by simp [recsOf]
theorem recsOf_nil : recsOf [] = [] := rfl
theorem flatOf_append (a b : List (List Int)) : flatOf (a ++ b) = flatOf a ++ flatOf b := by simp [flatOf]
theorem flatOf_one (p : List Int) : flatOf [p] = p := by simp [flatOf]
theorem flatOf_nil : flatOf [] = [] := rfl

theorem take_succ' {α : Type} (T : List α) (k : Nat) (h : k < T.length) : T.take (k + 1) = T.take k ++ [T[k]] := List.take_succ_eq_append_getElem h

theorem recsOf_succ (T : List (List Int)) (k : Nat) (h : k < T.length) : recsOf (T.take (k + 1)) = recsOf (T.take k) ++ hdr T[k].length ++ T[k] := by
  rw [take_succ' T k h, recsOf_append, recsOf_one, List.append_assoc]
theorem flatOf_succ (T : List (List Int)) (k : Nat) (h : k < T.length) : flatOf (T.take (k + 1)) = flatOf (T.take k) ++ T[k] := by
  rw [take_succ' T k h, flatOf_append, flatOf_one]

theorem recsOf_len (T : List (List Int)) : (recsOf T).length = 5 * T.length + (flatOf T).length := by
  induction T with
  | nil => rfl
  | cons p T ih =>
    have h1 : recsOf (p :: T) = (hdr p.length ++ p) ++ recsOf T := by simp [recsOf]
    have h2 : flatOf (p :: T) = p ++ flatOf T := by simp [flatOf]
    rw [h1, h2]
    simp only [List.length_append, hdr_len, List.length_cons, ih]
    omega

theorem split_at (T : List (List Int)) (k : Nat) (h : k < T.length) : T = T.take k ++ [T[k]] ++ T.drop (k + 1) := by
  rw [← take_succ' T k h, List.take_append_drop]

/-- Record k lies behind the first k records. -/
theorem recsOf_split (T : List (List Int)) (k : Nat) (h : k < T.length) : recsOf T = recsOf (T.take k) ++ (hdr T[k].length ++ T[k]) ++ recsOf (T.drop (k + 1)) := by
  conv => lhs; rw [split_at T k h]
  rw [recsOf_append, recsOf_append, recsOf_one]
theorem flatOf_split (T : List (List Int)) (k : Nat) (h : k < T.length) : flatOf T = flatOf (T.take k) ++ T[k] ++ flatOf (T.drop (k + 1)) := by
  conv => lhs; rw [split_at T k h]
  rw [flatOf_append, flatOf_append, flatOf_one]

theorem recsOf_take_len (T : List (List Int)) (k : Nat) (h : k < T.length) : (recsOf (T.take k)).length + 5 + T[k].length ≤ (recsOf T).length := by
  rw [recsOf_split T k h]
  simp only [List.length_append, hdr_len]
  omega
theorem flatOf_take_len (T : List (List Int)) (k : Nat) (h : k < T.length) : (flatOf (T.take k)).length + T[k].length ≤ (flatOf T).length := by
  rw [flatOf_split T k h]
  simp only [List.length_append]
  omega
theorem flatOf_take_le (T : List (List Int)) (k : Nat) : (flatOf (T.take k)).length ≤ (flatOf T).length := by
  conv => rhs; rw [← List.take_append_drop k T]
  rw [flatOf_append, List.length_append]
  omega
theorem recsOf_take_le (T : List (List Int)) (k : Nat) : (recsOf (T.take k)).length ≤ (recsOf T).length := by
  conv => rhs; rw [← List.take_append_drop k T]
  rw [recsOf_append, List.length_append]
  omega

theorem getD_mid (a b c : List Int) (j : Nat) (h : j < b.length) : (a ++ b ++ c).getD (a.length + j) 0 = b.getD j 0 := by
  rw [List.append_assoc]
  simp only [List.getD_eq_getElem?_getD]
  rw [List.getElem?_append_right (by omega), List.getElem?_append_left (by omega)]
  congr 2
  omega

/-- A header's byte of record k. -/
theorem recs_hdr (T : List (List Int)) (k : Nat) (h : k < T.length) (j : Nat) (hj : j < 5) : (recsOf T).getD ((recsOf (T.take k)).length + j) 0 = (hdr T[k].length).getD j 0 := by
  rw [recsOf_split T k h, getD_mid _ _ _ _ (by simp [hdr_len]; omega)]
  simp only [List.getD_eq_getElem?_getD]
  rw [List.getElem?_append_left (by rw [hdr_len]; omega)]
/-- A byte that record k carries. -/
theorem recs_data (T : List (List Int)) (k : Nat) (h : k < T.length) (j : Nat) (hj : j < T[k].length) : (recsOf T).getD ((recsOf (T.take k)).length + 5 + j) 0 = T[k].getD j 0 := by
  rw [recsOf_split T k h, Nat.add_assoc, getD_mid _ _ _ _ (by simp [hdr_len]; omega)]
  simp only [List.getD_eq_getElem?_getD]
  rw [List.getElem?_append_right (by rw [hdr_len]; omega), hdr_len]
  congr 2
  omega

/-- One more record's share of the first N bytes. -/
theorem flat_take_succ (T : List (List Int)) (k N : Nat) (h : k < T.length) (hlt : (flatOf (T.take k)).length < N) :
    (flatOf (T.take (k + 1))).take N = (flatOf (T.take k)) ++ T[k].take (N - (flatOf (T.take k)).length) := by
  rw [flatOf_succ T k h, List.take_append]
  congr 1
  exact List.take_of_length_le (by omega)

theorem flatOf_all (T : List (List Int)) : flatOf (T.take T.length) = flatOf T := by rw [List.take_length]
theorem recsOf_all (T : List (List Int)) : recsOf (T.take T.length) = recsOf T := by rw [List.take_length]

/-- The first N bytes lie in the first k records already. -/
theorem flat_take_of (T : List (List Int)) (k N : Nat) (h : N ≤ (flatOf (T.take k)).length) : (flatOf (T.take k)).take N = (flatOf T).take N := by
  conv => rhs; rw [← List.take_append_drop k T]
  rw [flatOf_append, List.take_append]
  rw [show N - (flatOf (T.take k)).length = 0 from by omega, List.take_zero, List.append_nil]

theorem flat_first (T : List (List Int)) (h : 0 < T.length) (N : Nat) (hN : N ≤ T[0].length) : (flatOf T).take N = T[0].take N := by
  have h1 := flat_take_of T 1 N (by rw [flatOf_succ T 0 h]; simp [flatOf_nil]; exact hN)
  rw [← h1, flatOf_succ T 0 h]
  simp [flatOf_nil]

theorem sum_flat (T : List (List Int)) : (T.map List.length).sum = (flatOf T).length := by simp [flatOf, List.length_flatten]

theorem flat_cut_le (L : List (List Int)) : (flatOf (L.map cutTo)).length ≤ (flatOf L).length := by
  induction L with
  | nil => simp [flatOf]
  | cons p L ih =>
    have h1 : flatOf ((p :: L).map cutTo) = cutTo p ++ flatOf (L.map cutTo) := by simp [flatOf]
    have h2 : flatOf (p :: L) = p ++ flatOf L := by simp [flatOf]
    rw [h1, h2, List.length_append, List.length_append, cutTo_len]
    omega

/-- While the first N bytes are not all there, something lies behind record k's header. -/
theorem more_left (T : List (List Int)) (k N : Nat) (h : k < T.length) (hlt : (flatOf (T.take k)).length < N) (hN : N ≤ (flatOf T).length) : (recsOf (T.take k)).length + 5 < (recsOf T).length := by
  have h1 := congrArg List.length (recsOf_split T k h)
  have h2 := congrArg List.length (flatOf_split T k h)
  have h3 := recsOf_len (T.drop (k + 1))
  simp only [List.length_append, hdr_len] at h1 h2
  omega
theorem k_lt (T : List (List Int)) (k N : Nat) (hk : k ≤ T.length) (hlt : (flatOf (T.take k)).length < N) (hN : N ≤ (flatOf T).length) : k < T.length := by
  rcases Nat.lt_or_ge k T.length with h | h
  · exact h
  · obtain rfl : k = T.length := by omega
    rw [flatOf_all] at hlt
    omega
theorem recs_take_succ_len (T : List (List Int)) (k : Nat) (h : k < T.length) : (recsOf (T.take (k + 1))).length = (recsOf (T.take k)).length + 5 + T[k].length := by
  rw [recsOf_succ T k h]
  simp only [List.length_append, hdr_len]

end Go.Proofs.Ybulkeicy
