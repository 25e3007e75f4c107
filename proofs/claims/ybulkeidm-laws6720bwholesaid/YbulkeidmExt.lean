/-
  THE GHOST MEMORY GROWS: one block more.
-/
import Derived.Test.YbulkeidmL8
namespace Go.Proofs.Ybulkeidm
open Go.RowKit

/-- G, and block b besides. -/
def ext (G : Nat → Option Gh) (b : Nat) (x : Gh) (b' : Nat) : Option Gh := if b' = b then some x else G b'
theorem ext_self (G : Nat → Option Gh) (b : Nat) (x : Gh) : ext G b x b = some x := by simp [ext]
theorem ext_ne (G : Nat → Option Gh) (b b' : Nat) (x : Gh) (h : b' ≠ b) : ext G b x b' = G b' := by simp [ext, h]
/-- G' says all that G says. -/
def Sub (G G' : Nat → Option Gh) : Prop := ∀ b x, G b = some x → G' b = some x
theorem Sub.refl (G : Nat → Option Gh) : Sub G G := fun _ _ h => h
theorem Sub.trans {G1 G2 G3 : Nat → Option Gh} (h : Sub G1 G2) (k : Sub G2 G3) : Sub G1 G3 := fun b x hx => k b x (h b x hx)
theorem sub_ext {G : Nat → Option Gh} {b : Nat} {x : Gh} (h : G b = none) : Sub G (ext G b x) := fun b' y hy => by
  rw [ext_ne]
  · exact hy
  · intro e; rw [e, h] at hy; cases hy
theorem Mem.ext {G : Nat → Option Gh} {w : World} {b : Nat} {x : Gh} (h : Mem G w) (hx : Gh.at w b x) : Mem (Ybulkeidm.ext G b x) w := fun b' y hy => by
  by_cases e : b' = b
  · subst e; rw [ext_self] at hy; cases hy; exact hx
  · rw [ext_ne _ _ _ _ e] at hy; exact h b' y hy
theorem Mem.fresh {G : Nat → Option Gh} {w : World} (h : Mem G w) {b : Nat} (hb : w.heap.size ≤ b) : G b = none := by
  cases hx : G b with
  | none => rfl
  | some x => have := Gh.at_lt (h b x hx); omega
theorem Mem.lt {G : Nat → Option Gh} {w : World} (h : Mem G w) {b : Nat} {x : Gh} (hb : G b = some x) : b < w.heap.size := Gh.at_lt (h b x hb)

/-- A function turned at one number. -/
def upd {α : Type} (f : Nat → α) (b : Nat) (v : α) (b' : Nat) : α := if b' = b then v else f b'
theorem upd_self {α : Type} (f : Nat → α) (b : Nat) (v : α) : upd f b v b = v := by simp [upd]
theorem upd_ne {α : Type} (f : Nat → α) (b b' : Nat) (v : α) (h : b' ≠ b) : upd f b v b' = f b' := by simp [upd, h]

theorem RdOK.mono {G G' : Nat → Option Gh} {i n d : Nat} {kf kl kf' kl' : Nat → Int} {rk rk' : Nat → RK} (h : RdOK G i n kf kl rk d) (hs : Sub G G') (h1 : kf' d = kf d) (h2 : kl' d = kl d) (h3 : rk' d = rk d) : RdOK G' i n kf' kl' rk' d := by
  obtain ⟨cs, t, e, ec, te, fv, sv, a1, a2, a3, a4, a5, a6, a7, a8⟩ := h.ex
  refine ⟨cs, t, e, ec, te, fv, sv, hs _ _ a1, a2, a3, a4, hs _ _ a5, by rw [h1]; exact a6, by rw [h2]; exact a7, ?_⟩
  rw [h3]
  split
  · rename_i fb v e; rw [e] at a8; exact ⟨a8.1, a8.2.1, a8.2.2.1, hs _ _ a8.2.2.2⟩
  · rename_i e; rw [e] at a8; exact a8
  · rename_i fb v c e; rw [e] at a8; exact ⟨a8.1, a8.2.1, a8.2.2.1, hs _ _ a8.2.2.2⟩

theorem ObOK.mono {G G' : Nat → Option Gh} {U : Nat → Nat → Nat} {i : Nat} {kf kl kf' kl' : Nat → Int} {rk rk' : Nat → RK} {o : OG} (h : ObOK G U kf kl rk i o) (hs : Sub G G') (h1 : ∀ d ∈ o.rds, kf' d = kf d ∧ kl' d = kl d ∧ rk' d = rk d) : ObOK G' U kf' kl' rk' i o := by
  refine ⟨h.n8, ?_, ?_, ?_, ?_, hs _ _ h.rds, fun d hd => (h.rd d hd).mono hs (h1 d hd).1 (h1 d hd).2.1 (h1 d hd).2.2, h.nodup, h.big⟩
  · obtain ⟨cs, t, a⟩ := h.obj; exact ⟨cs, t, hs _ _ a⟩
  · obtain ⟨cs, t, a, b⟩ := h.col; exact ⟨cs, t, hs _ _ a, b⟩
  · obtain ⟨cs, t, a, b, c⟩ := h.oo; exact ⟨cs, t, hs _ _ a, b, c⟩
  · obtain ⟨cs, t, A, C, a, b⟩ := h.upd; exact ⟨cs, t, A, C, hs _ _ a, b⟩

/-- How the read made from r lies. -/
def rkFor (r : RdIn) (n : Nat) (k : RK) : Prop :=
  if r.dense then ∃ fb, k = RK.dense fb ((List.range n).map (foInit r))
  else (prs r n (min r.ql r.pl) = [] ∧ k = RK.none) ∨ (∃ fb cap, k = RK.pairs fb (prs r n (min r.ql r.pl)) cap)

/-- The read made from r. -/
structure RdFor (G : Nat → Option Gh) (i n : Nat) (kf kl : Nat → Int) (rk : Nat → RK) (r : RdIn) (d : Nat) : Prop where
  ok : RdOK G i n kf kl rk d
  file : kf d = r.file
  line : kl d = r.line
  how : rkFor r n (rk d)

theorem RdFor.mono {G G' : Nat → Option Gh} {i n d : Nat} {kf kl kf' kl' : Nat → Int} {rk rk' : Nat → RK} {r : RdIn} (h : RdFor G i n kf kl rk r d) (hs : Sub G G') (h1 : kf' d = kf d) (h2 : kl' d = kl d) (h3 : rk' d = rk d) : RdFor G' i n kf' kl' rk' r d :=
  ⟨h.ok.mono hs h1 h2 h3, h1.trans h.file, h2.trans h.line, by rw [h3]; exact h.how⟩

/-- The first reads of an object: the ghost memory G lies at B and above. -/
structure Reads (G : Nat → Option Gh) (i n B : Nat) (kf kl : Nat → Int) (rk : Nat → RK) (rd : Nat → RdIn) (rds : List Nat) (w : World) : Prop where
  mem : Mem G w
  lo : ∀ b x, G b = some x → B ≤ b
  each : ∀ t (h : t < rds.length), RdFor G i n kf kl rk (rd t) rds[t]
  nodup : rds.Nodup

theorem Reads.read_lt {G : Nat → Option Gh} {i n B : Nat} {kf kl : Nat → Int} {rk : Nat → RK} {rd : Nat → RdIn} {rds : List Nat} {w : World} (h : Reads G i n B kf kl rk rd rds w) (d : Nat) (hd : d ∈ rds) : d < w.heap.size := by
  obtain ⟨t, ht, rfl⟩ := List.mem_iff_getElem.1 hd
  obtain ⟨cs, t', e, ec, te, fv, sv, a1, _⟩ := (h.each t ht).ok.ex
  exact h.mem.lt a1

/-- One read more. -/
theorem Reads.snoc {G G' : Nat → Option Gh} {i n B : Nat} {kf kl : Nat → Int} {rk : Nat → RK} {rd : Nat → RdIn} {rds : List Nat} {w w' : World} (h : Reads G i n B kf kl rk rd rds w) (d : Nat) (hd : w.heap.size ≤ d) (hs : Sub G G') (hm : Mem G' w') (hlo : ∀ b x, G' b = some x → B ≤ b)
    (f l : Int) (k : RK) (hf : f = (rd rds.length).file) (hl : l = (rd rds.length).line) (hk : rkFor (rd rds.length) n k) (hok : RdOK G' i n (upd kf d f) (upd kl d l) (upd rk d k) d) : Reads G' i n B (upd kf d f) (upd kl d l) (upd rk d k) rd (rds ++ [d]) w' := by
  have hne : ∀ e ∈ rds, e ≠ d := fun e he => by have := h.read_lt e he; omega
  refine ⟨hm, hlo, ?_, ?_⟩
  · intro t ht
    by_cases ht2 : t < rds.length
    · rw [List.getElem_append_left ht2]
      have h1 := hne _ (List.getElem_mem ht2)
      exact (h.each t ht2).mono hs (upd_ne _ _ _ _ h1) (upd_ne _ _ _ _ h1) (upd_ne _ _ _ _ h1)
    · obtain rfl : t = rds.length := by simp at ht; omega
      rw [List.getElem_append_right (Nat.le_refl _)]
      simp only [Nat.sub_self, List.getElem_cons_zero]
      exact ⟨hok, (upd_self _ _ _).trans hf, (upd_self _ _ _).trans hl, by rw [upd_self]; exact hk⟩
  · rw [List.nodup_append]
    refine ⟨h.nodup, by simp, ?_⟩
    intro a ha b hb
    rw [List.mem_singleton] at hb
    subst hb
    exact hne a ha
end Go.Proofs.Ybulkeidm
