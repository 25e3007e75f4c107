/-
  LawS6720BWhole: the rows of updates of one object.
-/
import Derived.Test.YbulkeidmL5
import Derived.Deep.OwnRows
namespace Go.Proofs.Ybulkeidm
open Go.RowKit

theorem info40 : (Yba.prog.info? 40).map (fun i => (i.zero, i.size, i.bytes)) = some (some (.pointer none), 1, 8) := by kernel_rfl

theorem below_grown {b : Nat} {W0 w w' : World} {row : Option Nat} (h : Below b W0 w) (hg : w.grownBy w' row) (hr : ∀ g, row = some g → b ≤ g) (hb : b ≤ w.heap.size) : Below b W0 w' :=
  ⟨hg.os.trans h.os, hg.tape.trans h.tape, hg.output.trans h.output, Nat.le_trans h.size hg.size, fun k hk => (hg.block k (by omega) (fun e => by have := hr k e.symm; omega)).trans (h.block k hk)⟩

theorem grown_then {a b c : World} {row row' : Option Nat} (h : a.grownBy b row) (k : b.grownBy c row') (hr : ∀ j, row' = some j → a.heap.size ≤ j ∨ row = some j) : a.grownBy c row :=
  ⟨k.os.trans h.os, k.tape.trans h.tape, k.output.trans h.output, Nat.le_trans h.size k.size, fun i hi hne => (k.block i (Nat.lt_of_lt_of_le hi h.size) (fun e => by
    rcases hr i e.symm with h1 | h1
    · omega
    · exact hne h1.symm)).trans (h.block i hi hne)⟩

theorem updLen_le (d : ObIn) (q : Nat) : updLen d q ≤ 5 := by unfold updLen; split <;> omega

set_option maxHeartbeats 2000000 in
set_option maxRecDepth 100000 in
theorem loop4 (x : Nat → Value) (w W0 : World) (Q : Exit → Act → World → Prop) (ib io pu n : Nat) (d : ObIn) (h16 : x 16 = .pointer (some ⟨ib, io, none⟩)) (h17 : x 17 = .int .i64 (n : Nat)) (h18 : x 18 = .slice (some ⟨pu, 0, none⟩) n n) (h19 : x 19 = .int .i64 0) (f0 : Nat → Value) (hR : RowF w pu 38 n f0) (hn : n ≤ 8)
    (hO : ObAt W0 ib io d) (hB : Below W0.heap.size W0 w) (hpu : W0.heap.size ≤ pu)
    (hexit : ∀ x' w', Live [(0, x 0), (1, x 1), (8, x 8), (9, x 9), (10, x 10), (11, x 11), (12, x 12), (13, x 13), (14, x 14), (15, x 15), (16, x 16), (17, x 17), (18, x 18), (157, x 157), (158, x 158)] x' → w.grownBy w' (some pu) → (∃ f, RowF w' pu 38 n f ∧ ∀ k, k < n → ∃ a, f k = .slice (some ⟨a, 0, none⟩) (updLen d k) (updLen d k)) → Q (.exit 6) ⟨frame x', []⟩ w') :
    Code.wp Yba.prog (.loop (loopAt Yba.f3 3)) Q ⟨frame x, []⟩ w := by
  refine wp_loop (fun a w' => ∃ (x' : Nat → Value), a = ⟨frame x', []⟩ ∧ ∃ (q : Nat), Live [(0, x 0), (1, x 1), (8, x 8), (9, x 9), (10, x 10), (11, x 11), (12, x 12), (13, x 13), (14, x 14), (15, x 15), (16, x 16), (17, x 17), (18, x 18), (157, x 157), (158, x 158)] x' ∧ x' 19 = .int .i64 (q : Nat) ∧ q ≤ n ∧ w.grownBy w' (some pu) ∧ ∃ f, RowF w' pu 38 n f ∧ ∀ k, k < q → ∃ a, f k = .slice (some ⟨a, 0, none⟩) (updLen d k) (updLen d k)) (fun a _ => n - (intOf (a.tmps.getD 19 (.bool false))).toNat) ⟨x, rfl, 0, live_cons (rfl) (live_cons (rfl) (live_cons (rfl) (live_cons (rfl) (live_cons (rfl) (live_cons (rfl) (live_cons (rfl) (live_cons (rfl) (live_cons (rfl) (live_cons (rfl) (live_cons (rfl) (live_cons (rfl) (live_cons (rfl) (live_cons (rfl) (live_cons (rfl) (live_nil _))))))))))))))), h19, by omega, World.grownBy.refl _ _, f0, hR, fun k hk => absurd hk (by omega)⟩ ?_
  clear hR
  rintro a w' ⟨x', rfl, q, hl, o19, hq, hg, f, hR, hf⟩
  have e0 := hl.head
  have e1 := hl.tail.head
  have e8 := hl.tail.tail.head
  have e9 := hl.tail.tail.tail.head
  have e10 := hl.tail.tail.tail.tail.head
  have e11 := hl.tail.tail.tail.tail.tail.head
  have e12 := hl.tail.tail.tail.tail.tail.tail.head
  have e13 := hl.tail.tail.tail.tail.tail.tail.tail.head
  have e14 := hl.tail.tail.tail.tail.tail.tail.tail.tail.head
  have e15 := hl.tail.tail.tail.tail.tail.tail.tail.tail.tail.head
  have e16 := (hl.tail.tail.tail.tail.tail.tail.tail.tail.tail.tail.head).trans h16
  have e17 := (hl.tail.tail.tail.tail.tail.tail.tail.tail.tail.tail.tail.head).trans h17
  have e18 := (hl.tail.tail.tail.tail.tail.tail.tail.tail.tail.tail.tail.tail.head).trans h18
  have e157 := hl.tail.tail.tail.tail.tail.tail.tail.tail.tail.tail.tail.tail.tail.head
  have e158 := hl.tail.tail.tail.tail.tail.tail.tail.tail.tail.tail.tail.tail.tail.tail.head
  rw [frame_lit, e0, e1, e8, e9, e10, e11, e12, e13, e14, e15, e16, e17, e18, e157, e158, o19]
  clear e0 e1 e8 e9 e10 e11 e12 e13 e14 e15 e16 e17 e18 e157 e158 hl o19
  conv => arg 2; whnf
  by_cases hlt : q < n
  · have hB' : Below W0.heap.size W0 w' := below_grown hB hg (fun g hg => by cases hg; exact hpu) hB.size
    have HU := updlen_any ib io q d w' (hO.below hB' (Nat.le_refl _))
    obtain ⟨m, hm⟩ : ∃ m, m = updLen d q := ⟨_, rfl⟩
    have Hm : Hid (m = updLen d q) := hm
    have hm5 : m ≤ 5 := by rw [hm]; exact updLen_le d q
    rw [← hm] at HU
    clear hm
    have hmk := run_make_row' (P := Yba.prog) 38 40 (.pointer none) 8 Yba.underlying38 info40 rfl .i64 .i64 m (by omega) (by omega)
    have i1 : (q : Int) < (n : Int) := by omega
    go_wp2_with (go_at_call 4; refine HU.mono ?_; rintro e w1 ⟨rfl, rfl⟩)
    have hpl := hR.rowB.lt
    obtain ⟨rb, hrb⟩ : ∃ rb, rb = w'.heap.size := ⟨_, rfl⟩
    have hRow : RowB (w'.alloc (.cells (madeCells #[Value.pointer none] m) 40)) rb 40 m := by rw [hrb]; exact RowF.rowB (World.rowIs_made _ _ _ _)
    rw [← hrb]
    have Hrb : Hid (rb = w'.heap.size) := hrb
    clear hrb HU hmk
    refine wp_frame rfl (fun x1 hx => ?_)
    refine loop5 x1 _ _ rb m (hx 20) (hx 183) (hx 184) hRow (by omega) ?_
    rintro x2 w2 hl2 hg2 hR2
    have e0 : x2 0 = x 0 := (hl2.head).trans (hx 0)
    have e1 : x2 1 = x 1 := (hl2.tail.head).trans (hx 1)
    have e8 : x2 8 = x 8 := (hl2.tail.tail.head).trans (hx 8)
    have e9 : x2 9 = x 9 := (hl2.tail.tail.tail.head).trans (hx 9)
    have e10 : x2 10 = x 10 := (hl2.tail.tail.tail.tail.head).trans (hx 10)
    have e11 : x2 11 = x 11 := (hl2.tail.tail.tail.tail.tail.head).trans (hx 11)
    have e12 : x2 12 = x 12 := (hl2.tail.tail.tail.tail.tail.tail.head).trans (hx 12)
    have e13 : x2 13 = x 13 := (hl2.tail.tail.tail.tail.tail.tail.tail.head).trans (hx 13)
    have e14 : x2 14 = x 14 := (hl2.tail.tail.tail.tail.tail.tail.tail.tail.head).trans (hx 14)
    have e15 : x2 15 = x 15 := (hl2.tail.tail.tail.tail.tail.tail.tail.tail.tail.head).trans (hx 15)
    have e16 : x2 16 = .pointer (some ⟨ib, io, none⟩) := (hl2.tail.tail.tail.tail.tail.tail.tail.tail.tail.tail.head).trans (hx 16)
    have e17 : x2 17 = .int .i64 (n : Nat) := (hl2.tail.tail.tail.tail.tail.tail.tail.tail.tail.tail.tail.head).trans (hx 17)
    have e18 : x2 18 = .slice (some ⟨pu, 0, none⟩) n n := (hl2.tail.tail.tail.tail.tail.tail.tail.tail.tail.tail.tail.tail.head).trans (hx 18)
    have e19 : x2 19 = .int .i64 (q : Nat) := (hl2.tail.tail.tail.tail.tail.tail.tail.tail.tail.tail.tail.tail.tail.head).trans (hx 19)
    have e20 : x2 20 = .slice (some ⟨rb, 0, none⟩) m m := (hl2.tail.tail.tail.tail.tail.tail.tail.tail.tail.tail.tail.tail.tail.tail.head).trans (hx 20)
    have e157 : x2 157 = x 157 := (hl2.tail.tail.tail.tail.tail.tail.tail.tail.tail.tail.tail.tail.tail.tail.tail.head).trans (hx 157)
    have e158 : x2 158 = x 158 := (hl2.tail.tail.tail.tail.tail.tail.tail.tail.tail.tail.tail.tail.tail.tail.tail.tail.head).trans (hx 158)
    have e183 : x2 183 = .int .i64 (m : Nat) := (hl2.tail.tail.tail.tail.tail.tail.tail.tail.tail.tail.tail.tail.tail.tail.tail.tail.tail.head).trans (hx 183)
    rw [frame_lit, e0, e1, e8, e9, e10, e11, e12, e13, e14, e15, e16, e17, e18, e19, e20, e157, e158, e183]
    clear e0 e1 e8 e9 e10 e11 e12 e13 e14 e15 e16 e17 e18 e19 e20 e157 e158 e183 hl2 hx
    have hne : pu ≠ rb := by have := Hrb.out; omega
    have hR3 : RowF w2 pu 38 n f := (hR.grown (World.grownBy_alloc w' (.cells (madeCells #[Value.pointer none] m) 40) none) (by simp)).grown hg2 (fun e => hne (Option.some.inj e))
    obtain ⟨cv, cR⟩ := hR3.rowB.cell q hlt
    have fR := hR3.rowB.frozen q
    have hg3 : w.grownBy w2 (some pu) := hg.trans (grown_then (World.grownBy_alloc w' (.cells (madeCells #[Value.pointer none] m) 40) (some pu)) hg2 (fun j hj => by cases hj; left; rw [Hrb.out]; exact Nat.le_refl _))
    clear hg2 hR2 hRow hB'
    go_wp2
    refine ⟨end_frame rfl (fun y hy => ⟨q + 1, live_cons (hy 0) (live_cons (hy 1) (live_cons (hy 8) (live_cons (hy 9) (live_cons (hy 10) (live_cons (hy 11) (live_cons (hy 12) (live_cons (hy 13) (live_cons (hy 14) (live_cons (hy 15) (live_cons ((hy 16).trans h16.symm) (live_cons ((hy 17).trans h17.symm) (live_cons ((hy 18).trans h18.symm) (live_cons (hy 157) (live_cons (hy 158) (live_nil _))))))))))))))), hy 19, by omega, hg3.trans (grown_setCell _ _ _ _), fun k => if k = q then .slice (some ⟨rb, 0, none⟩) m m else f k, hR3.set q _ _ hlt (by simp) (fun j _ hj => by simp [hj]), ?_⟩), ?_⟩
    · intro k hk
      by_cases e : k = q
      · subst e; exact ⟨rb, by simp [Hm.out]⟩
      · obtain ⟨a, ha⟩ := hf k (by omega)
        exact ⟨a, by simp [e, ha]⟩
    · show n - (intOf (.int .i64 ((q : Int) + 1))).toNat < n - (intOf (.int .i64 (q : Int))).toNat
      simp [intOf]; omega
  · have hd : decide ((q : Int) < (n : Int)) = false := by simp; omega
    have hd2 : decide (q < n) = false := by simp; omega
    obtain rfl : q = n := by omega
    go_wp2
    refine at_frame (Q := fun a w => Q _ a w) rfl (fun y hy => ?_)
    exact hexit y _ (live_cons (hy 0) (live_cons (hy 1) (live_cons (hy 8) (live_cons (hy 9) (live_cons (hy 10) (live_cons (hy 11) (live_cons (hy 12) (live_cons (hy 13) (live_cons (hy 14) (live_cons (hy 15) (live_cons ((hy 16).trans h16.symm) (live_cons ((hy 17).trans h17.symm) (live_cons ((hy 18).trans h18.symm) (live_cons (hy 157) (live_cons (hy 158) (live_nil _)))))))))))))))) hg ⟨f, hR, hf⟩
end Go.Proofs.Ybulkeidm
