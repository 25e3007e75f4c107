/-
  THE PLACES OF A READ AND THEIR COPIES, CELL BY CELL.
-/
import Derived.Test.YbulkeidmChk
import Derived.Test.YbulkeidmL14
import Derived.Test.YbulkeidmL9
namespace Go.Proofs.Ybulkeidm
open Go.RowKit

/-- A slice of pairs. -/
def PrAt (w : World) (ao : Option Addr) (v : List (Int × Int)) : Prop := ∀ k (h : k < v.length), ∃ cb, ao = some ⟨cb, 0, none⟩ ∧ w.cell? ⟨cb, k * 2, none⟩ = some (.int .i64 v[k].1) ∧ w.cell? ⟨cb, k * 2 + 1, none⟩ = some (.int .i64 v[k].2)
/-- A slice of n ints, and its copy. -/
def DnAt (U : Nat → Nat) (b : Bool) (w : World) (ca fa : Option Addr) (n : Nat) : Prop := ∀ j, j < n → ∃ cb fb a, ca = some ⟨cb, 0, none⟩ ∧ fa = some ⟨fb, 0, none⟩ ∧ w.cell? ⟨cb, j, none⟩ = some (.int .i64 a) ∧ w.cell? ⟨fb, j, none⟩ = some (.int .i64 (bif b then stOne U j a else a))

theorem PrAt.grown {w w' : World} {ao : Option Addr} {v : List (Int × Int)} (h : PrAt w ao v) (hg : w.grownBy w' none) : PrAt w' ao v := fun k hk => by
  obtain ⟨cb, h1, h2, h3⟩ := h k hk
  exact ⟨cb, h1, hg.cell h2 (by simp), hg.cell h3 (by simp)⟩
theorem DnAt.grown {U : Nat → Nat} {b : Bool} {w w' : World} {ca fa : Option Addr} {n : Nat} (h : DnAt U b w ca fa n) (hg : w.grownBy w' none) : DnAt U b w' ca fa n := fun k hk => by
  obtain ⟨cb, fb, a, h1, h2, h3, h4⟩ := h k hk
  exact ⟨cb, fb, a, h1, h2, hg.cell h3 (by simp), hg.cell h4 (by simp)⟩
theorem flat_at (v : List (Int × Int)) (k : Nat) (h : k < v.length) : (v.flatMap encP)[k * 2]? = some (.int .i64 v[k].1) ∧ (v.flatMap encP)[k * 2 + 1]? = some (.int .i64 v[k].2) := by
  have h1 := pairs_key v (k * 2) (by omega)
  have h2 := pairs_key v (k * 2 + 1) (by omega)
  rw [show k * 2 / 2 = k from by omega, show k * 2 % 2 = 0 from by omega, getElem!_pos v.toArray k (by simpa using h)] at h1
  rw [show (k * 2 + 1) / 2 = k from by omega, show (k * 2 + 1) % 2 = 1 from by omega, getElem!_pos v.toArray k (by simpa using h)] at h2
  rw [h1, h2]
  exact ⟨by simp [encP], by simp [encP]⟩
theorem PrAt.of_news {w : World} {cb : Nat} {v : List (Int × Int)} (h : ∀ t x, (v.flatMap encP)[t]? = some x → w.cell? ⟨cb, t, none⟩ = some x) : PrAt w (some ⟨cb, 0, none⟩) v := fun k hk =>
  ⟨cb, rfl, h _ _ (flat_at v k hk).1, h _ _ (flat_at v k hk).2⟩
theorem PrAt.of_own {w : World} {base n : Nat} {fv : Value} {v : List (Int × Int)} (h : w.ownsRow base 62 2 fv n (v.flatMap encP)) (hn : n = v.length) : ∃ ao c, fv = .slice ao v.length c ∧ PrAt w ao v := by
  subst hn
  rcases h.2 with ⟨rfl, h0⟩ | ⟨g, cap, cur, rfl, _, hg, _, _, _, ht⟩
  · exact ⟨none, 0, by rw [h0], fun k hk => by omega⟩
  · refine ⟨_, cap, rfl, PrAt.of_news fun t x hx => ?_⟩
    rw [← ht, List.getElem?_take] at hx
    split at hx
    · exact cellOf hg t x (by simpa using hx)
    · cases hx

structure PlG (U : Nat → Nat) (b : Bool) (w : World) (fv sv cf cs : Value) : Prop where
  ex : ∃ (n : Nat) (ca : Option Addr) (nc : Nat) (fa : Option Addr) (nf : Nat) (v : List (Int × Int)) (sa : Option Addr) (lc : Nat) (ga : Option Addr) (lf : Nat), cf = .slice ca n nc ∧ fv = .slice fa n nf ∧ ca.isNone = fa.isNone ∧ n ≤ 8 ∧ DnAt U b w ca fa n ∧ cs = .slice sa v.length lc ∧ sv = .slice ga v.length lf ∧ Reps v ∧ PrAt w sa v ∧ PrAt w ga (bif b then stFst v else v)

theorem reps_nil : Reps [] := ⟨by simp, by simp, by simp⟩
theorem stFst_nil : stFst [] = [] := by simp [stFst]
theorem PlG.of {U : Nat → Nat} {n : Nat} {b : Bool} {w : World} {fv sv cf cs : Value} (h : Places U n b w fv sv cf cs) (hn : n ≤ 8) : PlG U b w fv sv cf cs := by
  have hnil : PrAt w none [] := fun k hk => by simp at hk
  have hnil2 : PrAt w none (bif b then stFst [] else []) := fun k hk => by cases b <;> simp [stFst_nil] at hk
  rcases h with ⟨fb, cb, v, rfl, rfl, h3, h4, rfl, h6, rfl⟩ | ⟨rfl, rfl, rfl, rfl⟩ | ⟨fb, cb, v, cap, rfl, rfl, h3, h4, rfl, rfl, h6⟩
  · refine ⟨n, _, n, _, n, [], none, 0, none, 0, rfl, rfl, rfl, hn, ?_, rfl, rfl, reps_nil, hnil, hnil2⟩
    intro j hj
    refine ⟨cb, fb, v[j]'(by omega), rfl, rfl, h6.cell j (by omega), ?_⟩
    cases b with
    | false => exact h4.cell j (by simp; omega)
    | true =>
      have h5 := h4.cell j (by simp [stFo]; omega)
      simpa [stFo] using h5
  · exact ⟨0, none, 0, none, 0, [], none, 0, none, 0, rfl, rfl, rfl, by omega, fun j hj => by omega, rfl, rfl, reps_nil, hnil, hnil2⟩
  · exact ⟨0, none, 0, none, 0, v, _, _, _, _, rfl, rfl, rfl, by omega, fun j hj => by omega, rfl, rfl, h3, PrAt.of_news fun t x hx => cellOf h6 t x (by simpa using hx), PrAt.of_news fun t x hx => pairs_cells h4 t x hx⟩

/-- The buckets before q. -/
def bkt (v : List (Int × Int)) (q : Nat) : List (Int × Int) := (List.range q).flatMap fun q => v.filter fun p => p.1 == (q : Nat)
theorem bkt_zero (v : List (Int × Int)) : bkt v 0 = [] := rfl
theorem bkt_all (v : List (Int × Int)) : bkt v 8 = stFst v := rfl
theorem bkt_succ (v : List (Int × Int)) (q : Nat) : bkt v (q + 1) = bkt v q ++ v.filter fun p => p.1 == (q : Int) := by
  simp [bkt, List.range_succ]
theorem bkt_len (v : List (Int × Int)) (hv : v.length ≤ 8) : ∀ q, (bkt v q).length ≤ q * 8
  | 0 => by simp [bkt_zero]
  | q + 1 => by
    have ih := bkt_len v hv q
    have h2 : (v.filter fun p => p.1 == (q : Int)).length ≤ v.length := List.length_filter_le _ _
    rw [bkt_succ, List.length_append]
    omega
end Go.Proofs.Ybulkeidm
