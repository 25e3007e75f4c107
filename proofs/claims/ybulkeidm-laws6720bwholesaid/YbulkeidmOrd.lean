/-
  (*orderCollector).orderObjects over the memory that the law lays.
-/
import Derived.Test.YbulkeidmGh
namespace Go.Proofs.Ybulkeidm
open Go.RowKit

section
variable {G : Nat → Option Gh} {U : Nat → Nat → Nat} {kf kl : Nat → Int} {rk : Nat → RK} {S : Nat → Bool} {w w' : World}

/-- Nothing turns but what G names; new blocks may be laid. -/
structure Only (G : Nat → Option Gh) (w w' : World) : Prop where
  os : w'.os = w.os
  tape : w'.tape = w.tape
  output : w'.output = w.output
  size : w.heap.size ≤ w'.heap.size
  block : ∀ k, k < w.heap.size → G k = none → w'.heap[k]? = w.heap[k]?
theorem Only.refl (G : Nat → Option Gh) (w : World) : Only G w w := ⟨rfl, rfl, rfl, Nat.le_refl _, fun _ _ _ => rfl⟩
theorem Only.trans {w1 w2 w3 : World} (h : Only G w1 w2) (k : Only G w2 w3) : Only G w1 w3 :=
  ⟨k.os.trans h.os, k.tape.trans h.tape, k.output.trans h.output, Nat.le_trans h.size k.size, fun b hb hG => (k.block b (Nat.lt_of_lt_of_le hb h.size) hG).trans (h.block b hb hG)⟩
theorem Only.of_grown {g : Nat} {x : Gh} (hg : w.grownBy w' (some g)) (hG : G g = some x) : Only G w w' :=
  ⟨hg.os, hg.tape, hg.output, hg.size, fun k hk hk2 => hg.block k hk (fun e => by rw [Option.some.inj e, hG] at hk2; cases hk2)⟩
theorem Only.of_grown_none {row : Option Nat} (hg : w.grownBy w' row) (hG : ∀ g, row = some g → w.heap.size ≤ g) : Only G w w' :=
  ⟨hg.os, hg.tape, hg.output, hg.size, fun k hk _ => hg.block k hk (fun e => by have := hG k e.symm; omega)⟩
theorem Only.below {b0 : Nat} (h : Only G w w') (h0 : b0 ≤ w.heap.size) (hb : ∀ b x, G b = some x → b0 ≤ b) : Below b0 w w' :=
  ⟨h.os, h.tape, h.output, h.size, fun k hk => h.block k (by omega) (by
    cases hG : G k with
    | none => rfl
    | some x => have := hb k x hG; omega)⟩

/-- What a settling of a read of object i may have turned. -/
def Chg (G : Nat → Option Gh) (i : Nat) (S S' : Nat → Bool) : Prop := ∀ b, S' b = S b ∨ (S' b = true ∧ ((∃ v, G b = some (.fo i v)) ∨ (∃ v, G b = some (.fst i v))))

theorem Chg.refl (G : Nat → Option Gh) (i : Nat) (S : Nat → Bool) : Chg G i S S := fun _ => .inl rfl
theorem Chg.trans {i : Nat} {S1 S2 S3 : Nat → Bool} (h : Chg G i S1 S2) (k : Chg G i S2 S3) : Chg G i S1 S3 := fun b => by
  rcases k b with k1 | k1
  · rcases h b with h1 | h1
    · exact .inl (k1.trans h1)
    · exact .inr ⟨k1.trans h1.1, h1.2⟩
  · exact .inr k1
theorem Chg.mono {i : Nat} {S S' : Nat → Bool} (h : Chg G i S S') {b : Nat} (hb : S b = true) : S' b = true := by
  rcases h b with h1 | h1
  · rw [h1]; exact hb
  · exact h1.1
theorem Chg.reads {i j b : Nat} {S S' : Nat → Bool} {L : List Nat} (h : Chg G i S S') (hb : G b = some (.reads j L)) : S' b = S b := by
  rcases h b with h1 | ⟨_, ⟨v, h1⟩ | ⟨v, h1⟩⟩
  · exact h1
  · rw [hb] at h1; cases h1
  · rw [hb] at h1; cases h1
theorem Chg.rdS {i d : Nat} {S S' : Nat → Bool} (h : Chg G i S S') (hd : rdS S rk true d) : rdS S' rk true d := by
  unfold Ybulkeidm.rdS at hd ⊢
  split
  · rename_i e; rw [e] at hd; exact h.mono hd
  · trivial
  · rename_i e; rw [e] at hd; exact h.mono hd
/-- .. of another object: as it was. -/
theorem Chg.other {i j n d : Nat} {S S' : Nat → Bool} {s : Bool} (h : Chg G i S S') (hij : j ≠ i) (hR : RdOK G j n kf kl rk d) (hd : Ybulkeidm.rdS S rk s d) : Ybulkeidm.rdS S' rk s d := by
  obtain ⟨cs, t, e, ec, te, fv, sv, _, _, _, _, _, _, _, hk⟩ := hR.ex
  unfold Ybulkeidm.rdS at hd ⊢
  split
  · rename_i fb v e; rw [e] at hd hk
    rcases h fb with h1 | ⟨_, ⟨v', h1⟩ | ⟨v', h1⟩⟩
    · rw [h1]; exact hd
    · rw [hk.2.2.2] at h1; cases h1; exact absurd rfl hij
    · rw [hk.2.2.2] at h1; cases h1
  · trivial
  · rename_i fb v c e; rw [e] at hd hk
    rcases h fb with h1 | ⟨_, ⟨v', h1⟩ | ⟨v', h1⟩⟩
    · rw [h1]; exact hd
    · rw [hk.2.2.2] at h1; cases h1
    · rw [hk.2.2.2] at h1; cases h1; exact absurd rfl hij

theorem Reps.stl {v : List (Int × Int)} (h : Reps v) (s : Bool) : Reps (bif s then stFst v else v) := by
  cases s
  · exact h
  · exact h.perm (stFst_perm h)

theorem settle_mem {i d : Nat} {o : OG} (hO : ObOK G U kf kl rk i o) (hd : d ∈ o.rds) (hM : Mem (Sett U kf kl G S) w) :
    Calls Yba.prog 7 #[.pointer (some ⟨d, 2, none⟩), .slice (some ⟨o.pu, 0, none⟩) o.n o.n] w fun e w' => e = .returned (.tuple #[]) ∧ Only G w w' ∧ ∃ S', Mem (Sett U kf kl G S') w' ∧ rdS S' rk true d ∧ Chg G i S S' := by
  obtain ⟨cs, t, e, ec, te, fv, sv, hG, _, c2, c3, _, _, _, hk⟩ := (hO.rd d hd).ex
  have hD := hM.plain hG
  have e2 := cellOf hD 2 fv c2
  have e3 := cellOf hD 3 sv c3
  match hrk : rk d with
  | Sum.inl (fb, v) =>
    rw [hrk] at hk
    obtain ⟨rfl, rfl, hv, hf⟩ := hk
    obtain ⟨uc, ut, A, C, hu, huc⟩ := hO.upd
    have hU := hM.plain hu
    refine (settle_dense d o.pu fb o.n o.n (U i) A C (bif S fb then stFo (U i) v else v) w ?_ hO.n8 ?_ ?_ (hM.fo hf) e2 e3 (fun q hq => cellOf hU q _ (huc q hq))).mono ?_
    · cases S fb <;> simp [stFo, hv]
    · intro h; rw [h, hf] at hG; cases hG
    · intro h; rw [h, hf] at hu; cases hu
    · rintro ee w1 ⟨rfl, hg, hI⟩
      refine ⟨rfl, Only.of_grown hg hf, also S fb, hM.settle hg ?_, ?_, ?_⟩
      · intro x hx
        rw [hf] at hx; cases hx
        show IRow w1 fb (stFo (U i) v)
        cases hs : S fb with
        | true => rw [hs] at hI; simp only [cond_true, stFo_idem] at hI; exact hI
        | false => rw [hs] at hI; exact hI
      · simp [rdS, hrk, also_self]
      · intro b
        by_cases hbe : b = fb
        · subst hbe; exact .inr ⟨also_self _ _, .inl ⟨v, hf⟩⟩
        · exact .inl (also_ne S fb b hbe)
  | Sum.inr (Sum.inl _) =>
    rw [hrk] at hk
    obtain ⟨rfl, rfl⟩ := hk
    refine (settle_empty d o.pu o.n o.n w e2 e3).mono ?_
    rintro ee w1 ⟨rfl, rfl⟩
    exact ⟨rfl, Only.refl _ _, S, hM, by simp [rdS, hrk], Chg.refl _ _ _⟩
  | Sum.inr (Sum.inr (fb, v, cap)) =>
    rw [hrk] at hk
    obtain ⟨rfl, rfl, hR, hf⟩ := hk
    obtain ⟨hlt, hH⟩ := hM.fst hf
    have hl : (bif S fb then stFst v else v).length = v.length := by
      cases S fb
      · rfl
      · exact (stFst_perm hR).length_eq
    have e3' : w.cell? ⟨d, 3, none⟩ = some (.slice (some ⟨fb, 0, none⟩) (bif S fb then stFst v else v).length cap) := by rw [hl]; exact e3
    refine (settle_sparse d o.pu fb o.n o.n cap _ w (hR.stl (S fb)) hH hlt e2 e3').mono ?_
    rintro ee w1 ⟨rfl, hg, hlt1, hI⟩
    refine ⟨rfl, Only.of_grown hg hf, also S fb, hM.settle hg ?_, ?_, ?_⟩
    · intro x hx
      rw [hf] at hx; cases hx
      refine ⟨hlt1, ?_⟩
      show Go.Sort.HoldsK encP 2 w1 fb 0 (stFst v).toArray
      cases hs : S fb with
      | true => rw [hs] at hI; simp only [cond_true, stFst_idem hR] at hI; exact hI
      | false => rw [hs] at hI; exact hI
    · simp [rdS, hrk, also_self]
    · intro b
      by_cases hbe : b = fb
      · subst hbe; exact .inr ⟨also_self _ _, .inr ⟨v, hf⟩⟩
      · exact .inl (also_ne S fb b hbe)

theorem nodup_pos {X : List Nat} (h : X.Nodup) : X.Pairwise (fun a b => X.idxOf a < X.idxOf b) := by
  rw [List.pairwise_iff_getElem]
  intro i j hi hj hij
  rw [h.idxOf_getElem i hi, h.idxOf_getElem j hj]
  exact hij

theorem isort_idem {X : List Nat} (h : X.Nodup) : isort (ltd kf kl) (isort (ltd kf kl) X) = isort (ltd kf kl) X := by
  have hs := lessEv_swo kf kl
  have h1 := isort_sorted hs X (nodup_pos h)
  have hY : (isort (ltd kf kl) X).Nodup := (isort_perm (ltd kf kl) X).nodup_iff.2 h
  have h2 := nodup_pos hY
  have h3 : (isort (ltd kf kl) X).Pairwise (lt' (ltd kf kl) fun d => (isort (ltd kf kl) X).idxOf d) := by
    refine pw_mono ?_ _ (h1.and h2)
    rintro a b ⟨h4 | h4, h5⟩
    · exact .inl h4
    · exact .inr ⟨h4.1, h5⟩
  exact sorted_unique hs (isort_perm _ _) (isort_sorted hs _ h2) h3

theorem RdOK.keyG {i n d g : Nat} (hR : RdOK G i n kf kl rk d) (hM : Mem (Sett U kf kl G S) w) (hg : ∃ j L, G g = some (.reads j L)) : KeyG w g d (kf d) (kl d) := by
  obtain ⟨cs, t, e, ec, te, fv, sv, hG, c0, _, _, hE, e0, e1, _⟩ := hR.ex
  obtain ⟨j, L, hg⟩ := hg
  refine ⟨e, ?_, ?_, cellOf (hM.plain hG) 0 _ c0, cellOf (hM.plain hE) 0 _ e0, cellOf (hM.plain hE) 1 _ e1⟩
  · intro h; rw [h, hg] at hG; cases hG
  · intro h; rw [h, hg] at hE; cases hE

theorem sort_mem {i : Nat} {o : OG} (hO : ObOK G U kf kl rk i o) (hM : Mem (Sett U kf kl G S) w) :
    Calls Yba.prog 8 #[.slice (some ⟨o.pr, 0, none⟩) o.rds.length o.cr, .func (.func 9) #[] #[]] w fun e w' => e = .returned (.tuple #[]) ∧ Only G w w' ∧ Mem (Sett U kf kl G (also S o.pr)) w' := by
  have hR := hM.reads hO.rds
  have hp : (bif S o.pr then isort (ltd kf kl) o.rds else o.rds).Perm o.rds := by
    cases S o.pr
    · exact List.Perm.refl _
    · exact isort_perm _ _
  have hl := hp.length_eq
  have hN : (bif S o.pr then isort (ltd kf kl) o.rds else o.rds).Nodup := hp.nodup_iff.2 hO.nodup
  have hI : isort (ltd kf kl) (bif S o.pr then isort (ltd kf kl) o.rds else o.rds) = isort (ltd kf kl) o.rds := by
    cases S o.pr
    · rfl
    · exact isort_idem hO.nodup
  have hS : Srt w w o.pr kf kl (bif S o.pr then isort (ltd kf kl) o.rds else o.rds) :=
    ⟨hR, fun d hd => (hO.rd d (hp.mem_iff.1 hd)).keyG hM ⟨_, _, hO.rds⟩, World.grownBy.refl _ _⟩
  refine (sortStable_any o.pr o.rds.length o.cr kf kl _ _ w w hS hl hO.big (nodup_pos hN)).mono ?_
  rintro e w1 ⟨rfl, h1⟩
  rw [hI] at h1
  refine ⟨rfl, Only.of_grown h1.gr hO.rds, hM.settle h1.gr ?_⟩
  intro x hx
  rw [hO.rds] at hx; cases hx
  exact h1.row
end
end Go.Proofs.Ybulkeidm
