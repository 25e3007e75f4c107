/-
  THE COPIES OF A READ'S PLACES; two rows turned at once.
-/
import Derived.Test.YbulkeidmCopy
namespace Go.Proofs.Ybulkeidm
open Go.RowKit

/-- Two blocks, and no other. -/
def mark2 (a b : Nat) (k : Nat) : Option Gh := if k = a ∨ k = b then some (.pmap []) else none
theorem mark2_none {a b k : Nat} (h1 : k ≠ a) (h2 : k ≠ b) : mark2 a b k = none := by simp [mark2, h1, h2]
theorem only_grown {a b : Nat} {w w' : World} {row : Option Nat} (hg : w.grownBy w' row) (hr : ∀ g, row = some g → g = a ∨ g = b) : Only (mark2 a b) w w' :=
  ⟨hg.os, hg.tape, hg.output, hg.size, fun k hk hG => hg.block k hk (fun e => by
    rcases hr k e.symm with h | h
    · rw [h] at hG; simp [mark2] at hG
    · rw [h] at hG; simp [mark2] at hG)⟩
/-- .. or a block that was not there. -/
theorem Only.then_new {G : Nat → Option Gh} {w w1 w2 : World} {row : Option Nat} (h : Only G w w1) (hg : w1.grownBy w2 row) (hr : ∀ g, row = some g → w.heap.size ≤ g ∨ G g ≠ none) : Only G w w2 :=
  ⟨hg.os.trans h.os, hg.tape.trans h.tape, hg.output.trans h.output, Nat.le_trans h.size hg.size, fun k hk hG => (hg.block k (Nat.lt_of_lt_of_le hk h.size) (fun e => by
    rcases hr k e.symm with h1 | h1
    · omega
    · exact h1 hG)).trans (h.block k hk hG)⟩

/-- The copies of the places of a read that lies as k. -/
def CpOK (G : Nat → Option Gh) (k : RK) (fv sv : Value) : Prop :=
  match k with
  | Sum.inl (_, v) => sv = .slice none 0 0 ∧ ∃ cb, fv = .slice (some ⟨cb, 0, none⟩) v.length v.length ∧ G cb = some (.plain (.cells (v.map (Value.int .i64)).toArray 3 (0, 0)))
  | Sum.inr (Sum.inl _) => fv = .slice none 0 0 ∧ sv = .slice none 0 0
  | Sum.inr (Sum.inr (_, v, _)) => fv = .slice none 0 0 ∧ ∃ cb, sv = .slice (some ⟨cb, 0, none⟩) v.length v.length ∧ G cb = some (.plain (.cells (v.flatMap encP).toArray 62 (0, 0)))

theorem CpOK.mono {G G' : Nat → Option Gh} {k : RK} {fv sv : Value} (h : CpOK G k fv sv) (hs : Sub G G') : CpOK G' k fv sv := by
  unfold CpOK at h ⊢
  split at h
  · obtain ⟨h1, cb, h2, h3⟩ := h; exact ⟨h1, cb, h2, hs _ _ h3⟩
  · exact h
  · obtain ⟨h1, cb, h2, h3⟩ := h; exact ⟨h1, cb, h2, hs _ _ h3⟩

theorem Reads.wider {G G' : Nat → Option Gh} {i n B : Nat} {kf kl : Nat → Int} {rk : Nat → RK} {rd : Nat → RdIn} {rds : List Nat} {w w' : World} (h : Reads G i n B kf kl rk rd rds w) (hs : Sub G G') (hm : Mem G' w') (hlo : ∀ b x, G' b = some x → B ≤ b) : Reads G' i n B kf kl rk rd rds w' :=
  ⟨hm, hlo, fun t ht => (h.each t ht).mono hs rfl rfl rfl, h.nodup⟩

theorem Mem.only {G G2 : Nat → Option Gh} {w w' : World} (h : Mem G w) (ho : Only G2 w w') (hd : ∀ b x, G b = some x → G2 b = none) : Mem G w' := fun b x hx =>
  Gh.at_block (h b x hx) (ho.block b (h.lt hx) (hd b x hx))

theorem neq_nil_int (p : Option Addr) (n c : Nat) (w : World) : (binOp .neq 27 (.slice p n c) (.slice none 0 0)).run Yba.prog w = .ok (.bool p.isSome) w := by
  have h : ∀ d : Nat, (Op.equalIn (d + 1) 27 (.slice p n c) (.slice none 0 0)).run Yba.prog w = .ok p.isNone w := fun d => by
    cases p <;> simp [Op.equalIn, run_underlying Yba.underlying27]
  cases p <;> simp [binOp, Op.equal, Op.maxDepth, h 9999]
theorem neq_nil_pr (p : Option Addr) (n c : Nat) (w : World) : (binOp .neq 55 (.slice p n c) (.slice none 0 0)).run Yba.prog w = .ok (.bool p.isSome) w := by
  have h : ∀ d : Nat, (Op.equalIn (d + 1) 55 (.slice p n c) (.slice none 0 0)).run Yba.prog w = .ok p.isNone w := fun d => by
    cases p <;> simp [Op.equalIn, run_underlying Yba.underlying55]
  cases p <;> simp [binOp, Op.equal, Op.maxDepth, h 9999]
end Go.Proofs.Ybulkeidm
