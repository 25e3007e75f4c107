/-
  THE PLAIN PART of LawS6717CWhole: what a label's header name is, said of bytes. No Go in sight.
-/
namespace Go.Proofs.YbulkeibwDoor

/-- Does a label that holds the byte n want quotes? -/
def ndq (n : Nat) : Bool := decide (n ≤ 32) || decide (n = 127) || decide (n = 34) || decide (n = 92)

/-- The letter behind the backslash; 0: none. -/
def tabv (n : Nat) : Nat :=
  if n = 7 then 97 else if n = 8 then 98 else if n = 9 then 116 else if n = 10 then 110 else if n = 11 then 118 else if n = 12 then 102 else if n = 13 then 114
  else if n = 34 then 34 else if n = 92 then 92 else 0

/-- One byte, escaped. -/
def esc (n : Nat) : List Nat :=
  if tabv n = 0 then (if n < 32 ∨ 127 ≤ n then [92, 48 + n / 64, 48 + n / 8 % 8, 48 + n % 8] else [n]) else [92, tabv n]

theorem esc_len (n : Nat) : (esc n).length ≤ 4 := by
  unfold esc
  split
  · split <;> simp
  · simp

theorem tabv_lt (n : Nat) : tabv n < 256 := by unfold tabv; (repeat' split) <;> omega

theorem esc_lt (n : Nat) (h : n < 256) : ∀ x ∈ esc n, x < 256 := by
  intro x hx
  have := tabv_lt n
  unfold esc at hx
  split at hx
  · split at hx
    · simp at hx
      omega
    · simp at hx; omega
  · simp at hx; omega

/-- What has been written behind k bytes of the label. -/
def upTo (l : List Nat) (k : Nat) : List Nat := 34 :: (l.take k).flatMap esc

theorem upTo_zero (l : List Nat) : upTo l 0 = [34] := by simp [upTo]

theorem upTo_succ (l : List Nat) (k : Nat) (h : k < l.length) : upTo l (k + 1) = upTo l k ++ esc l[k] := by
  unfold upTo
  rw [List.take_succ_eq_append_getElem h]
  simp only [List.flatMap_append, List.flatMap_cons, List.flatMap_nil, List.append_nil, List.cons_append]

theorem upTo_len (l : List Nat) (k : Nat) : (upTo l k).length ≤ 1 + 4 * k := by
  unfold upTo
  have : ∀ (m : List Nat), (m.flatMap esc).length ≤ 4 * m.length := by
    intro m
    induction m with
    | nil => simp
    | cons a m ih =>
      simp only [List.flatMap_cons, List.length_append, List.length_cons]
      have := esc_len a
      omega
  have h1 := this (l.take k)
  have h2 : (l.take k).length ≤ k := List.length_take_le _ _
  simp only [List.length_cons]
  omega

theorem upTo_lt (l : List Nat) (k : Nat) (h : ∀ x ∈ l, x < 256) : ∀ x ∈ upTo l k, x < 256 := by
  intro x hx
  unfold upTo at hx
  simp only [List.mem_cons, List.mem_flatMap] at hx
  rcases hx with rfl | ⟨a, ha, hx⟩
  · omega
  · exact esc_lt a (h a (List.mem_of_mem_take ha)) x hx

/-- The whole header name of a label that wants quotes. -/
def quoted (l : List Nat) : List Nat := upTo l l.length ++ [34]

end Go.Proofs.YbulkeibwDoor
