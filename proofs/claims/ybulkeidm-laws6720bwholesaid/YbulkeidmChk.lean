/-
  WHAT THE CHECK READS.
-/
import Derived.Test.YbulkeidmBld
import Derived.Laws.StructEq
namespace Go.Proofs.Ybulkeidm
open Go.RowKit

theorem neq47 (p : Nat) (w : World) : (binOp .neq 47 (ptr p) (ptr p)).run Yba.prog w = .ok (.bool false) w := by
  have h : ∀ d : Nat, (Op.equalIn (d + 1) 47 (ptr p) (ptr p)).run Yba.prog w = .ok true w := fun d => by
    simp [Op.equalIn, run_underlying Yba.underlying47, run_sameAddr_same]
  simp [binOp, Op.equal, Op.maxDepth, h 9999]
theorem neq66 (p : Nat) (w : World) : (binOp .neq 66 (ptr p) (ptr p)).run Yba.prog w = .ok (.bool false) w := by
  have h : ∀ d : Nat, (Op.equalIn (d + 1) 66 (ptr p) (ptr p)).run Yba.prog w = .ok true w := fun d => by
    simp [Op.equalIn, run_underlying Yba.underlying66, run_sameAddr_same]
  simp [binOp, Op.equal, Op.maxDepth, h 9999]
theorem neq67 (p : Nat) (w : World) : (binOp .neq 67 (ptr p) (ptr p)).run Yba.prog w = .ok (.bool false) w := by
  have h : ∀ d : Nat, (Op.equalIn (d + 1) 67 (ptr p) (ptr p)).run Yba.prog w = .ok true w := fun d => by
    simp [Op.equalIn, run_underlying Yba.underlying67, run_sameAddr_same]
  simp [binOp, Op.equal, Op.maxDepth, h 9999]
theorem neq50 (p : Option Addr) (w : World) : (binOp .neq 50 (.pointer p) (.pointer p)).run Yba.prog w = .ok (.bool false) w := by
  have h : ∀ d : Nat, (Op.equalIn (d + 1) 50 (.pointer p) (.pointer p)).run Yba.prog w = .ok true w := fun d => by
    cases p <;> simp [Op.equalIn, run_underlying Yba.underlying50, run_sameAddr_same]
  simp [binOp, Op.equal, Op.maxDepth, h 9999]
theorem neq62 (a b : Int) (w : World) : (binOp .neq 62 (.agg #[.int .i64 a, .int .i64 b]) (.agg #[.int .i64 a, .int .i64 b])).run Yba.prog w = .ok (.bool false) w := by
  have u3 := Yba.underlying3
  have a3 := Yba.isAgg3
  have z3 := Yba.sizeOf3
  have hS : Yba.prog.underlying 62 = some (.struct (Yba.prog.fieldsOf 62)) := by kernel_rfl
  have hp : Yba.prog.stoodInHeld 62 = false := by kernel_rfl
  rw [run_neq_struct, show (10000 : Nat) = 9999 + 1 from rfl, run_equalIn_agg w 9999 62 _ _ hS hp]
  simp only [Program.fieldsOf, Yba.underlying62]
  go_simp
theorem eql_nil_int (p : Option Addr) (n c : Nat) (w : World) : (binOp .eql 27 (.slice p n c) (.slice none 0 0)).run Yba.prog w = .ok (.bool p.isNone) w := by
  have h : ∀ d : Nat, (Op.equalIn (d + 1) 27 (.slice p n c) (.slice none 0 0)).run Yba.prog w = .ok p.isNone w := fun d => by
    cases p <;> simp [Op.equalIn, run_underlying Yba.underlying27]
  cases p <;> simp [binOp, Op.equal, Op.maxDepth, h 9999]
theorem neq_nil_oo (w : World) : (binOp .neq 79 (.slice none 0 0) (.slice none 0 0)).run Yba.prog w = .ok (.bool false) w := by
  have h : ∀ d : Nat, (Op.equalIn (d + 1) 79 (.slice none 0 0) (.slice none 0 0)).run Yba.prog w = .ok true w := fun d => by
    simp [Op.equalIn, run_underlying Yba.underlying79]
  simp [binOp, Op.equal, Op.maxDepth, h 9999]

/-- All that the check reads, the objects H settled. -/
structure Chk (D : Nat → ObIn) (r0 N : Nat) (G : Nat → Option Gh) (kf kl : Nat → Int) (rk : Nat → RK) (ob : Nat → OG) (cg : Nat → CG) (E : List (Nat × Nat)) (H : List Nat) (S : Nat → Bool) (tb : Nat) (w : World) : Prop where
  mem : Mem (Sett (Ud D) kf kl G S) w
  each : ∀ k, k < N → ObMade G D kf kl rk k (ob k) (cg k)
  keys : ∀ p ∈ E, ∃ cs t, G p.1 = some (.plain (.cells cs t (0, 0)))
  look : ∀ k, k < N → E.lookup (ob k).po = if (D k).present then some (ob k).pc else none
  six : Six w r0 N (pick N (fun k => ptr (ob k).po) (.pointer none)) (pick N (fun k => ptr (ob k).pc) (.pointer none)) (pick N (fun k => sl3 (cg k).br (ob k).rds.length) (.slice none 0 0)) (pick N (fun k => sl3 (cg k).fo (ob k).rds.length) (.slice none 0 0)) (pick N (fun k => sl3 (cg k).fs (ob k).rds.length) (.slice none 0 0)) E
  cons : ∀ i, i < N → obS S rk (decide (i ∈ H)) (ob i)
  tch : RowF w tb 4 N (fun k => .bool (decide (k ∈ H)))

section
variable {D : Nat → ObIn} {r0 N : Nat} {G : Nat → Option Gh} {kf kl : Nat → Int} {rk : Nat → RK} {ob : Nat → OG} {cg : Nat → CG} {E : List (Nat × Nat)} {H : List Nat} {S : Nat → Bool} {tb : Nat} {w w' : World} {i : Nat}
theorem pick_at {F : Nat → Value} {z : Value} (hi : i < N) : pick N F z i = F i := by rw [pick, if_pos hi]
theorem Chk.grown (h : Chk D r0 N G kf kl rk ob cg E H S tb w) (hg : w.grownBy w' none) : Chk D r0 N G kf kl rk ob cg E H S tb w' :=
  ⟨h.mem.grown hg (fun g hg => by cases hg), h.each, h.keys, h.look, h.six.grown hg (fun g hg => by cases hg), h.cons, h.tch.grown hg (by simp)⟩
theorem Chk.c8 (h : Chk D r0 N G kf kl rk ob cg E H S tb w) (hi : i < N) : w.cell? ⟨r0, i, none⟩ = some (ptr (ob i).po) := by have := h.six.r8.cell i hi; rw [pick_at hi] at this; exact this
theorem Chk.c9 (h : Chk D r0 N G kf kl rk ob cg E H S tb w) (hi : i < N) : w.cell? ⟨r0 + 1, i, none⟩ = some (ptr (ob i).pc) := by have := h.six.r9.cell i hi; rw [pick_at hi] at this; exact this
theorem Chk.c11 (h : Chk D r0 N G kf kl rk ob cg E H S tb w) (hi : i < N) : w.cell? ⟨r0 + 3, i, none⟩ = some (sl3 (cg i).br (ob i).rds.length) := by have := h.six.r11.cell i hi; rw [pick_at hi] at this; exact this
theorem Chk.c12 (h : Chk D r0 N G kf kl rk ob cg E H S tb w) (hi : i < N) : w.cell? ⟨r0 + 4, i, none⟩ = some (sl3 (cg i).fo (ob i).rds.length) := by have := h.six.r12.cell i hi; rw [pick_at hi] at this; exact this
theorem Chk.c13 (h : Chk D r0 N G kf kl rk ob cg E H S tb w) (hi : i < N) : w.cell? ⟨r0 + 5, i, none⟩ = some (sl3 (cg i).fs (ob i).rds.length) := by have := h.six.r13.cell i hi; rw [pick_at hi] at this; exact this
theorem Chk.ct (h : Chk D r0 N G kf kl rk ob cg E H S tb w) (hi : i < N) : w.cell? ⟨tb, i, none⟩ = some (.bool (decide (i ∈ H))) := h.tch.cell i hi
theorem Chk.coo (h : Chk D r0 N G kf kl rk ob cg E H S tb w) (hi : i < N) : w.cell? ⟨(ob i).pc, 0, none⟩ = some (ptr (ob i).poo) := by
  obtain ⟨cs, t, h1, h2⟩ := (h.each i hi).ok.col
  exact cellOf (h.mem.plain h1) 0 _ h2
theorem Chk.cup (h : Chk D r0 N G kf kl rk ob cg E H S tb w) (hi : i < N) : w.cell? ⟨(ob i).poo, 1, none⟩ = some (.slice (some ⟨(ob i).pu, 0, none⟩) (ob i).n (ob i).n) := by
  obtain ⟨cs, t, h1, h2, _⟩ := (h.each i hi).ok.oo
  exact cellOf (h.mem.plain h1) 1 _ h2
theorem Chk.crd (h : Chk D r0 N G kf kl rk ob cg E H S tb w) (hi : i < N) : w.cell? ⟨(ob i).poo, 3, none⟩ = some (.slice (some ⟨(ob i).pr, 0, none⟩) (ob i).rds.length (ob i).cr) := by
  obtain ⟨cs, t, h1, _, h2⟩ := (h.each i hi).ok.oo
  exact cellOf (h.mem.plain h1) 3 _ h2
theorem Chk.up (h : Chk D r0 N G kf kl rk ob cg E H S tb w) (hi : i < N) (q : Nat) (hq : q < (ob i).n) : ∃ A C, w.cell? ⟨(ob i).pu, q, none⟩ = some (.slice A (updLen (D i) q) C) := by
  obtain ⟨cs, t, A, C, h1, h2⟩ := (h.each i hi).ok.upd
  exact ⟨A q, C q, cellOf (h.mem.plain h1) q _ (h2 q hq)⟩
theorem Chk.rds (h : Chk D r0 N G kf kl rk ob cg E H S tb w) (hi : i < N) : PRow w (ob i).pr (bif decide (i ∈ H) then isort (ltd kf kl) (ob i).rds else (ob i).rds) := by
  have h1 := h.mem.reads (h.each i hi).ok.rds
  rw [(h.cons i hi).1] at h1
  exact h1
theorem Chk.br (h : Chk D r0 N G kf kl rk ob cg E H S tb w) (hi : i < N) : w.heap[(cg i).br]? = some (.cells ((ob i).rds.map ptr).toArray 47 (0, 0)) := h.mem.plain (h.each i hi).br
theorem Chk.cfo (h : Chk D r0 N G kf kl rk ob cg E H S tb w) (hi : i < N) (t : Nat) (ht : t < (ob i).rds.length) : w.cell? ⟨(cg i).fo, t, none⟩ = some ((cg i).cf t) := by
  obtain ⟨arr, h1, h2⟩ := (h.each i hi).fo
  exact cellOf (h.mem.plain h1) t _ (h2 t ht)
theorem Chk.cfs (h : Chk D r0 N G kf kl rk ob cg E H S tb w) (hi : i < N) (t : Nat) (ht : t < (ob i).rds.length) : w.cell? ⟨(cg i).fs, t, none⟩ = some ((cg i).cs t) := by
  obtain ⟨arr, h1, h2⟩ := (h.each i hi).fs
  exact cellOf (h.mem.plain h1) t _ (h2 t ht)
theorem Chk.lookup (h : Chk D r0 N G kf kl rk ob cg E H S tb w) (hi : i < N) (hp : (D i).present = true) (w' : World) (hw : w'.heap = w.heap) : (Instr.lookup 32 (.map (some (r0 + 2))) (ptr (ob i).po) false).run Yba.prog w' = .ok (ptr (ob i).pc) w' := by
  obtain ⟨cs, t, h1⟩ := (h.each i hi).ok.obj
  have hc : ∀ b cs t, G b = some (.plain (.cells cs t (0, 0))) → Cells w' b := fun b cs t hb => ⟨cs, t, by rw [hw]; exact h.mem.plain hb⟩
  have h2 := (h.six.mp.block (w' := w') (by rw [hw])).lookup (ob i).po (hc _ _ _ h1) (fun p hp => by obtain ⟨cs, t, h3⟩ := h.keys p hp; exact hc _ _ _ h3)
  rw [h.look i hi, hp] at h2
  exact h2
theorem Chk.key (h : Chk D r0 N G kf kl rk ob cg E H S tb w) (hi : i < N) (d : Nat) (hd : d ∈ (ob i).rds) : Key w d (kf d) (kl d) := by
  obtain ⟨cs, t, e, ec, te, fv, sv, a1, a2, _, _, a5, a6, a7, _⟩ := ((h.each i hi).ok.rd d hd).ex
  exact ⟨e, cellOf (h.mem.plain a1) 0 _ a2, cellOf (h.mem.plain a5) 0 _ a6, cellOf (h.mem.plain a5) 1 _ a7⟩

/-- How the places of a read stand, against their copies: as ints; not at all; as pairs. -/
def Places (U : Nat → Nat) (n : Nat) (b : Bool) (w : World) (fv sv cf cs : Value) : Prop :=
  (∃ fb cb v, fv = sl3 fb n ∧ sv = .slice none 0 0 ∧ v.length = n ∧ IRow w fb (bif b then stFo U v else v) ∧ cf = sl3 cb n ∧ IRow w cb v ∧ cs = .slice none 0 0)
  ∨ (fv = .slice none 0 0 ∧ sv = .slice none 0 0 ∧ cf = .slice none 0 0 ∧ cs = .slice none 0 0)
  ∨ (∃ fb cb v cap, fv = .slice none 0 0 ∧ sv = .slice (some ⟨fb, 0, none⟩) v.length cap ∧ Reps v ∧ Go.Sort.HoldsK encP 2 w fb 0 (bif b then stFst v else v).toArray ∧ cf = .slice none 0 0 ∧ cs = sl3 cb v.length ∧ w.heap[cb]? = some (.cells (v.flatMap encP).toArray 62 (0, 0)))

structure RdChk (D : Nat → ObIn) (n i t : Nat) (b : Bool) (cf cs : Value) (d : Nat) (w : World) : Prop where
  ex : ∃ e fv sv, w.cell? ⟨d, 0, none⟩ = some (ptr e) ∧ w.cell? ⟨d, 2, none⟩ = some fv ∧ w.cell? ⟨d, 3, none⟩ = some sv ∧ w.cell? ⟨e, 0, none⟩ = some (.int .i64 ((D i).rd t).file) ∧ w.cell? ⟨e, 1, none⟩ = some (.int .i64 ((D i).rd t).line) ∧ Places (Ud D i) n b w fv sv cf cs

theorem Chk.read (h : Chk D r0 N G kf kl rk ob cg E H S tb w) (hi : i < N) (t : Nat) (ht : t < (ob i).rds.length) : RdChk D (ob i).n i t (decide (i ∈ H)) ((cg i).cf t) ((cg i).cs t) (ob i).rds[t] w := by
  have hM := h.each i hi
  have hd := List.getElem_mem ht
  obtain ⟨cs, ty, e, ec, te, fv, sv, a1, a2, a3, a4, a5, a6, a7, a8⟩ := (hM.ok.rd _ hd).ex
  have hcp := hM.cp t ht
  have hS := (h.cons i hi).2 _ hd
  refine ⟨e, fv, sv, cellOf (h.mem.plain a1) 0 _ a2, cellOf (h.mem.plain a1) 2 _ a3, cellOf (h.mem.plain a1) 3 _ a4, ?_, ?_, ?_⟩
  · rw [← (hM.num t ht).1]; exact cellOf (h.mem.plain a5) 0 _ a6
  · rw [← (hM.num t ht).2]; exact cellOf (h.mem.plain a5) 1 _ a7
  · unfold rdS at hS
    unfold CpOK at hcp
    split at a8
    · rename_i fb v hr
      rw [hr] at hS hcp
      simp only at hS hcp
      obtain ⟨h1, h2, h3, h4⟩ := a8
      obtain ⟨h5, cb, h6, h7⟩ := hcp
      refine .inl ⟨fb, cb, v, h1, h2, h3, ?_, ?_, h.mem.plain h7, h5⟩
      · have := h.mem.fo h4; rw [hS] at this; exact this
      · rw [h6, h3]
    · rename_i hr
      rw [hr] at hcp
      exact .inr (.inl ⟨a8.1, a8.2, hcp.1, hcp.2⟩)
    · rename_i fb v c hr
      rw [hr] at hS hcp
      simp only at hS hcp
      obtain ⟨h1, h2, h3, h4⟩ := a8
      obtain ⟨h5, cb, h6, h7⟩ := hcp
      refine .inr (.inr ⟨fb, cb, v, c, h1, h2, h3, ?_, h5, h6, h.mem.plain h7⟩)
      have := (h.mem.fst h4).2; rw [hS] at this; exact this
end
end Go.Proofs.Ybulkeidm
