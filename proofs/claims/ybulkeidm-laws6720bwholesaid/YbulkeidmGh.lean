/-
  THE MEMORY THAT THE LAW LAYS, AS A PARTIAL FUNCTION FROM BLOCKS TO WHAT THEY ARE: three kinds of blocks turn (a dense row, a row of pairs, a row of reads), each tagged with its object; all others stay.
-/
import Derived.Test.YbulkeidmSetS
import Derived.Test.YbulkeidmStab
import Derived.Test.YbulkeidmMap
namespace Go.Proofs.Ybulkeidm
open Go.RowKit

/-- What a block is: any block that stays; a dense row of object i; a row of pairs of object i; a row of reads of object i; the map. -/
abbrev Gh := Sum Obj (Sum (Nat × List Int) (Sum (Nat × List (Int × Int)) (Sum (Nat × List Nat) (List (Nat × Nat)))))
abbrev Gh.plain (o : Obj) : Gh := Sum.inl o
abbrev Gh.fo (i : Nat) (v : List Int) : Gh := Sum.inr (Sum.inl (i, v))
abbrev Gh.fst (i : Nat) (v : List (Int × Int)) : Gh := Sum.inr (Sum.inr (Sum.inl (i, v)))
abbrev Gh.reads (i : Nat) (L : List Nat) : Gh := Sum.inr (Sum.inr (Sum.inr (Sum.inl (i, L))))
abbrev Gh.pmap (E : List (Nat × Nat)) : Gh := Sum.inr (Sum.inr (Sum.inr (Sum.inr E)))

def Gh.at (w : World) (b : Nat) : Gh → Prop
  | Sum.inl o => w.heap[b]? = some o
  | Sum.inr (Sum.inl (_, v)) => IRow w b v
  | Sum.inr (Sum.inr (Sum.inl (_, v))) => b < w.heap.size ∧ Go.Sort.HoldsK encP 2 w b 0 v.toArray
  | Sum.inr (Sum.inr (Sum.inr (Sum.inl (_, L)))) => PRow w b L
  | Sum.inr (Sum.inr (Sum.inr (Sum.inr E))) => PMap w b E

theorem lt_of_block {w : World} {b : Nat} {o : Obj} (h : w.heap[b]? = some o) : b < w.heap.size := by
  rcases Nat.lt_or_ge b w.heap.size with h1 | h1
  · exact h1
  · rw [Array.getElem?_eq_none h1] at h; cases h

theorem Gh.at_lt {w : World} {b : Nat} {x : Gh} (h : Gh.at w b x) : b < w.heap.size :=
  match x, h with
  | Sum.inl _, h => lt_of_block h
  | Sum.inr (Sum.inl (_, _)), h => lt_of_block h
  | Sum.inr (Sum.inr (Sum.inl (_, _))), h => h.1
  | Sum.inr (Sum.inr (Sum.inr (Sum.inl (_, _)))), h => PRow.lt h
  | Sum.inr (Sum.inr (Sum.inr (Sum.inr _))), h => PMap.lt h

theorem Gh.at_block {w w' : World} {b : Nat} {x : Gh} (h : Gh.at w b x) (e : w'.heap[b]? = w.heap[b]?) : Gh.at w' b x := by
  have hlt : b < w'.heap.size := by
    have h1 := Gh.at_lt h
    rcases Nat.lt_or_ge b w'.heap.size with h2 | h2
    · exact h2
    · rw [Array.getElem?_eq_none h2, Array.getElem?_eq_getElem h1] at e; cases e
  match x, h with
  | Sum.inl _, h => exact e.trans h
  | Sum.inr (Sum.inl (_, _)), h => exact IRow.block h e
  | Sum.inr (Sum.inr (Sum.inl (_, _))), h =>
    refine ⟨hlt, fun j hj => ?_⟩
    have := h.2 j hj
    rw [World.cell?_of_block (a := ⟨b, 0 + j, none⟩) e, World.frozen?_of_block (a := ⟨b, 0 + j, none⟩) e]
    exact this
  | Sum.inr (Sum.inr (Sum.inr (Sum.inl (_, _)))), h => exact PRow.block h e
  | Sum.inr (Sum.inr (Sum.inr (Sum.inr _))), h => exact PMap.block h e

def Mem (G : Nat → Option Gh) (w : World) : Prop := ∀ b x, G b = some x → Gh.at w b x

theorem Mem.step {G G' : Nat → Option Gh} {w w' : World} {g : Nat} (h : Mem G w) (hg : w.grownBy w' (some g)) (hne : ∀ b, b ≠ g → G' b = G b) (hs : ∀ x, G' g = some x → Gh.at w' g x) : Mem G' w' := by
  intro b x hx
  by_cases e : b = g
  · subst e; exact hs x hx
  · rw [hne b e] at hx
    have h1 := h b x hx
    exact Gh.at_block h1 (hg.block b (Gh.at_lt h1) (fun h2 => e (Option.some.inj h2)))

theorem Mem.grown {G : Nat → Option Gh} {w w' : World} {row : Option Nat} (h : Mem G w) (hg : w.grownBy w' row) (hr : ∀ g, row = some g → G g = none) : Mem G w' := by
  intro b x hx
  have h1 := h b x hx
  refine Gh.at_block h1 (hg.block b (Gh.at_lt h1) (fun h2 => ?_))
  rw [hr b h2.symm] at hx; cases hx

/-- What is settled: block by block. -/
def stl (U : Nat → Nat → Nat) (kf kl : Nat → Int) (s : Bool) : Gh → Gh
  | Sum.inr (Sum.inl (i, v)) => .fo i (bif s then stFo (U i) v else v)
  | Sum.inr (Sum.inr (Sum.inl (i, v))) => .fst i (bif s then stFst v else v)
  | Sum.inr (Sum.inr (Sum.inr (Sum.inl (i, L)))) => .reads i (bif s then isort (ltd kf kl) L else L)
  | x => x
def Sett (U : Nat → Nat → Nat) (kf kl : Nat → Int) (G : Nat → Option Gh) (S : Nat → Bool) (b : Nat) : Option Gh := (G b).map (stl U kf kl (S b))

/-- One more block settled. -/
def also (S : Nat → Bool) (g : Nat) (b : Nat) : Bool := S b || b == g

theorem also_self (S : Nat → Bool) (g : Nat) : also S g g = true := by simp [also]
theorem also_ne (S : Nat → Bool) (g b : Nat) (h : b ≠ g) : also S g b = S b := by simp [also, h]
theorem also_mono {S : Nat → Bool} {g b : Nat} (h : S b = true) : also S g b = true := by simp [also, h]

section
variable {U : Nat → Nat → Nat} {kf kl : Nat → Int} {G : Nat → Option Gh} {S : Nat → Bool} {w : World}
theorem Mem.plain (h : Mem (Sett U kf kl G S) w) {b : Nat} {o : Obj} (hb : G b = some (.plain o)) : w.heap[b]? = some o :=
  h b (.plain o) (by simp [Sett, hb, stl])
theorem Mem.pmap (h : Mem (Sett U kf kl G S) w) {b : Nat} {E : List (Nat × Nat)} (hb : G b = some (.pmap E)) : PMap w b E :=
  h b (.pmap E) (by simp [Sett, hb, stl])
theorem Mem.fo (h : Mem (Sett U kf kl G S) w) {b i : Nat} {v : List Int} (hb : G b = some (.fo i v)) : IRow w b (bif S b then stFo (U i) v else v) :=
  h b (.fo i _) (by simp [Sett, hb, stl])
theorem Mem.fst (h : Mem (Sett U kf kl G S) w) {b i : Nat} {v : List (Int × Int)} (hb : G b = some (.fst i v)) : b < w.heap.size ∧ Go.Sort.HoldsK encP 2 w b 0 (bif S b then stFst v else v).toArray :=
  h b (.fst i _) (by simp [Sett, hb, stl])
theorem Mem.reads (h : Mem (Sett U kf kl G S) w) {b i : Nat} {L : List Nat} (hb : G b = some (.reads i L)) : PRow w b (bif S b then isort (ltd kf kl) L else L) :=
  h b (.reads i _) (by simp [Sett, hb, stl])
theorem Mem.settle (h : Mem (Sett U kf kl G S) w) {w' : World} {g : Nat} (hg : w.grownBy w' (some g)) (hs : ∀ x, G g = some x → Gh.at w' g (stl U kf kl true x)) : Mem (Sett U kf kl G (also S g)) w' := by
  refine h.step hg ?_ ?_
  · intro b hb; simp [Sett, also_ne S g b hb]
  · intro x hx
    simp only [Sett, also_self] at hx
    cases hG : G g with
    | none => rw [hG] at hx; cases hx
    | some y => rw [hG] at hx; cases hx; exact hs y hG
end

theorem cellOf {w : World} {b : Nat} {cs : Array Value} {t : TypeId} {fr : Nat × Nat} (h : w.heap[b]? = some (.cells cs t fr)) (j : Nat) (v : Value) (hj : cs[j]? = some v) : w.cell? ⟨b, j, none⟩ = some v := by
  have := World.news_of_block h j v (by simpa using hj)
  rw [Go.WideShapes.add_plain, Nat.zero_add] at this
  exact this

/-- How a read's places lie: dense (a block, its row); not at all; as pairs (a block, its row, a capacity). -/
abbrev RK := Sum (Nat × List Int) (Sum Unit (Nat × List (Int × Int) × Nat))
abbrev RK.dense (fb : Nat) (v : List Int) : RK := Sum.inl (fb, v)
abbrev RK.none : RK := Sum.inr (Sum.inl ())
abbrev RK.pairs (fb : Nat) (v : List (Int × Int)) (cap : Nat) : RK := Sum.inr (Sum.inr (fb, v, cap))

/-- A read of object i, over n replicas. -/
structure RdOK (G : Nat → Option Gh) (i n : Nat) (kf kl : Nat → Int) (rk : Nat → RK) (d : Nat) : Prop where
  ex : ∃ (cs : Array Value) (t : TypeId) (e : Nat) (ec : Array Value) (te : TypeId) (fv sv : Value), G d = some (.plain (.cells cs t (0, 0))) ∧ cs[0]? = some (ptr e) ∧ cs[2]? = some fv ∧ cs[3]? = some sv ∧
    G e = some (.plain (.cells ec te (0, 0))) ∧ ec[0]? = some (.int .i64 (kf d)) ∧ ec[1]? = some (.int .i64 (kl d)) ∧
    match rk d with
    | Sum.inl (fb, v) => fv = .slice (some ⟨fb, 0, Option.none⟩) n n ∧ sv = .slice Option.none 0 0 ∧ v.length = n ∧ G fb = some (.fo i v)
    | Sum.inr (Sum.inl _) => fv = .slice Option.none 0 0 ∧ sv = .slice Option.none 0 0
    | Sum.inr (Sum.inr (fb, v, cap)) => fv = .slice Option.none 0 0 ∧ sv = .slice (some ⟨fb, 0, Option.none⟩) v.length cap ∧ Reps v ∧ G fb = some (.fst i v)

/-- A read's places are settled, or not. -/
def rdS (S : Nat → Bool) (rk : Nat → RK) (s : Bool) (d : Nat) : Prop :=
  match rk d with
  | Sum.inl (fb, _) => S fb = s
  | Sum.inr (Sum.inl _) => True
  | Sum.inr (Sum.inr (fb, _, _)) => S fb = s

/-- The blocks of one object. -/
structure OG where
  po : Nat
  pc : Nat
  poo : Nat
  pu : Nat
  pr : Nat
  n : Nat
  cr : Nat
  rds : List Nat

structure ObOK (G : Nat → Option Gh) (U : Nat → Nat → Nat) (kf kl : Nat → Int) (rk : Nat → RK) (i : Nat) (o : OG) : Prop where
  n8 : o.n ≤ 8
  obj : ∃ cs t, G o.po = some (.plain (.cells cs t (0, 0)))
  col : ∃ (cs : Array Value) (t : TypeId), G o.pc = some (.plain (.cells cs t (0, 0))) ∧ cs[0]? = some (ptr o.poo)
  oo : ∃ (cs : Array Value) (t : TypeId), G o.poo = some (.plain (.cells cs t (0, 0))) ∧ cs[1]? = some (.slice (some ⟨o.pu, 0, none⟩) o.n o.n) ∧ cs[3]? = some (.slice (some ⟨o.pr, 0, none⟩) o.rds.length o.cr)
  upd : ∃ (cs : Array Value) (t : TypeId) (A : Nat → Option Addr) (C : Nat → Nat), G o.pu = some (.plain (.cells cs t (0, 0))) ∧ ∀ q, q < o.n → cs[q]? = some (.slice (A q) (U i q) (C q))
  rds : G o.pr = some (.reads i o.rds)
  rd : ∀ d ∈ o.rds, RdOK G i o.n kf kl rk d
  nodup : o.rds.Nodup
  big : o.rds.length ≤ 140737488355328

def obS (S : Nat → Bool) (rk : Nat → RK) (s : Bool) (o : OG) : Prop := S o.pr = s ∧ ∀ d ∈ o.rds, rdS S rk s d
end Go.Proofs.Ybulkeidm
