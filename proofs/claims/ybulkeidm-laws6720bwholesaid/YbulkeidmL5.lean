/-
  LawS6720BWhole: a row of new invocations.
-/
import Derived.Test.YbulkeidmRowB
namespace Go.Proofs.Ybulkeidm
open Go.RowKit

set_option maxHeartbeats 2000000 in
set_option maxRecDepth 100000 in
theorem loop5 (x : Nat → Value) (w : World) (Q : Exit → Act → World → Prop) (rb n : Nat) (h20 : x 20 = .slice (some ⟨rb, 0, none⟩) n n) (h183 : x 183 = .int .i64 (n : Nat)) (h184 : x 184 = .int .i64 0) (hR : RowB w rb 40 n) (hn : n ≤ 8)
    (hexit : ∀ x' w', Live [(0, x 0), (1, x 1), (8, x 8), (9, x 9), (10, x 10), (11, x 11), (12, x 12), (13, x 13), (14, x 14), (15, x 15), (16, x 16), (17, x 17), (18, x 18), (19, x 19), (20, x 20), (157, x 157), (158, x 158), (183, x 183)] x' → w.grownBy w' (some rb) → RowB w' rb 40 n → Q (.exit 8) ⟨frame x', []⟩ w') :
    Code.wp Yba.prog (.loop (loopAt Yba.f3 4)) Q ⟨frame x, []⟩ w := by
  refine wp_loop (fun a w' => ∃ (x' : Nat → Value), a = ⟨frame x', []⟩ ∧ ∃ (j : Nat), Live [(0, x 0), (1, x 1), (8, x 8), (9, x 9), (10, x 10), (11, x 11), (12, x 12), (13, x 13), (14, x 14), (15, x 15), (16, x 16), (17, x 17), (18, x 18), (19, x 19), (20, x 20), (157, x 157), (158, x 158), (183, x 183)] x' ∧ x' 184 = .int .i64 (j : Nat) ∧ j ≤ n ∧ w.grownBy w' (some rb) ∧ RowB w' rb 40 n) (fun a _ => n - (intOf (a.tmps.getD 184 (.bool false))).toNat) ⟨x, rfl, 0, live_cons (rfl) (live_cons (rfl) (live_cons (rfl) (live_cons (rfl) (live_cons (rfl) (live_cons (rfl) (live_cons (rfl) (live_cons (rfl) (live_cons (rfl) (live_cons (rfl) (live_cons (rfl) (live_cons (rfl) (live_cons (rfl) (live_cons (rfl) (live_cons (rfl) (live_cons (rfl) (live_cons (rfl) (live_cons (rfl) (live_nil _)))))))))))))))))), h184, by omega, World.grownBy.refl _ _, hR⟩ ?_
  clear hR
  rintro a w' ⟨x', rfl, j, hl, o184, hj, hg, hR⟩
  have e0 := hl.head
  have e1 := hl.tail.head
  have e8 := hl.tail.tail.head
  have e9 := hl.tail.tail.tail.head
  have e10 := hl.tail.tail.tail.tail.head
  have e11 := hl.tail.tail.tail.tail.tail.head
  have e12 := hl.tail.tail.tail.tail.tail.tail.head
  have e13 := hl.tail.tail.tail.tail.tail.tail.tail.head
  have e14 := hl.tail.tail.tail.tail.tail.tail.tail.tail.head
  have e15 := hl.tail.tail.tail.tail.tail.tail.tail.tail.tail.head
  have e16 := hl.tail.tail.tail.tail.tail.tail.tail.tail.tail.tail.head
  have e17 := hl.tail.tail.tail.tail.tail.tail.tail.tail.tail.tail.tail.head
  have e18 := hl.tail.tail.tail.tail.tail.tail.tail.tail.tail.tail.tail.tail.head
  have e19 := hl.tail.tail.tail.tail.tail.tail.tail.tail.tail.tail.tail.tail.tail.head
  have e20 := (hl.tail.tail.tail.tail.tail.tail.tail.tail.tail.tail.tail.tail.tail.tail.head).trans h20
  have e157 := hl.tail.tail.tail.tail.tail.tail.tail.tail.tail.tail.tail.tail.tail.tail.tail.head
  have e158 := hl.tail.tail.tail.tail.tail.tail.tail.tail.tail.tail.tail.tail.tail.tail.tail.tail.head
  have e183 := (hl.tail.tail.tail.tail.tail.tail.tail.tail.tail.tail.tail.tail.tail.tail.tail.tail.tail.head).trans h183
  rw [frame_lit, e0, e1, e8, e9, e10, e11, e12, e13, e14, e15, e16, e17, e18, e19, e20, e157, e158, e183, o184]
  clear e0 e1 e8 e9 e10 e11 e12 e13 e14 e15 e16 e17 e18 e19 e20 e157 e158 e183 hl o184
  conv => arg 2; whnf
  by_cases hlt : j < n
  · obtain ⟨cv, cR⟩ := hR.cell j hlt
    have fR := hR.frozen j
    have i1 : (j : Int) < (n : Int) := by omega
    have hbl := hR.lt
    go_wp2
    refine ⟨end_frame rfl (fun y hy => ⟨j + 1, live_cons (hy 0) (live_cons (hy 1) (live_cons (hy 8) (live_cons (hy 9) (live_cons (hy 10) (live_cons (hy 11) (live_cons (hy 12) (live_cons (hy 13) (live_cons (hy 14) (live_cons (hy 15) (live_cons (hy 16) (live_cons (hy 17) (live_cons (hy 18) (live_cons (hy 19) (live_cons ((hy 20).trans h20.symm) (live_cons (hy 157) (live_cons (hy 158) (live_cons ((hy 183).trans h183.symm) (live_nil _)))))))))))))))))), hy 184, by omega, hg.trans ((grown_setCell _ _ _ _).trans (World.grownBy_alloc _ _ _)), (hR.set j _).grown (World.grownBy_alloc _ _ none) (by simp)⟩), ?_⟩
    show n - (intOf (.int .i64 ((j : Int) + 1))).toNat < n - (intOf (.int .i64 (j : Int))).toNat
    simp [intOf]; omega
  · have hd : decide ((j : Int) < (n : Int)) = false := by simp; omega
    have hd2 : decide (j < n) = false := by simp; omega
    go_wp2
    refine at_frame (Q := fun a w => Q _ a w) rfl (fun y hy => ?_)
    exact hexit y _ (live_cons (hy 0) (live_cons (hy 1) (live_cons (hy 8) (live_cons (hy 9) (live_cons (hy 10) (live_cons (hy 11) (live_cons (hy 12) (live_cons (hy 13) (live_cons (hy 14) (live_cons (hy 15) (live_cons (hy 16) (live_cons (hy 17) (live_cons (hy 18) (live_cons (hy 19) (live_cons ((hy 20).trans h20.symm) (live_cons (hy 157) (live_cons (hy 158) (live_cons ((hy 183).trans h183.symm) (live_nil _))))))))))))))))))) hg hR
end Go.Proofs.Ybulkeidm
