/-
  LawS6720BWhole: arg as it was.
-/
import Derived.Test.YbulkeidmChk
namespace Go.Proofs.Ybulkeidm
open Go.RowKit

set_option maxHeartbeats 4000000 in
set_option maxRecDepth 100000 in
theorem loop12 (x : Nat → Value) (w : World) (Q : Exit → Act → World → Prop) (ab cb m : Nat) (p : Nat → Option Addr) (h41 : x 41 = .slice (some ⟨ab, 0, none⟩) m m) (h47 : x 47 = .slice (some ⟨cb, 0, none⟩) m m) (h519 : x 519 = .int .i64 (m : Nat)) (h520 : x 520 = .int .i64 0)
    (hm : m ≤ 4096) (hA : ∀ k, k < m → w.cell? ⟨ab, k, none⟩ = some (.pointer (p k))) (hB : ∀ k, k < m → w.cell? ⟨cb, k, none⟩ = some (.pointer (p k)))
    (hexit : ∀ x' w', Live [(0, x 0), (8, x 8), (9, x 9), (10, x 10), (11, x 11), (12, x 12), (13, x 13), (14, x 14), (41, x 41), (42, x 42), (47, x 47), (519, x 519)] x' → w.grownBy w' none → Q (.exit 22) ⟨frame x', []⟩ w') :
    Code.wp Yba.prog (.loop (loopAt Yba.f3 11)) Q ⟨frame x, []⟩ w := by
  refine wp_loop (fun a w' => ∃ (x' : Nat → Value), a = ⟨frame x', []⟩ ∧ ∃ (j : Nat), Live [(0, x 0), (8, x 8), (9, x 9), (10, x 10), (11, x 11), (12, x 12), (13, x 13), (14, x 14), (41, x 41), (42, x 42), (47, x 47), (519, x 519)] x' ∧ x' 520 = .int .i64 (j : Nat) ∧ j ≤ m ∧ w.grownBy w' none) (fun a _ => m - (intOf (a.tmps.getD 520 (.bool false))).toNat) ⟨x, rfl, 0, live_cons (rfl) (live_cons (rfl) (live_cons (rfl) (live_cons (rfl) (live_cons (rfl) (live_cons (rfl) (live_cons (rfl) (live_cons (rfl) (live_cons (rfl) (live_cons (rfl) (live_cons (rfl) (live_cons (rfl) (live_nil _)))))))))))), h520, by omega, World.grownBy.refl _ _⟩ ?_
  rintro a w' ⟨x', rfl, j, hl, o520, hj, hg⟩
  have e0 := hl.head
  have e8 := hl.tail.head
  have e9 := hl.tail.tail.head
  have e10 := hl.tail.tail.tail.head
  have e11 := hl.tail.tail.tail.tail.head
  have e12 := hl.tail.tail.tail.tail.tail.head
  have e13 := hl.tail.tail.tail.tail.tail.tail.head
  have e14 := hl.tail.tail.tail.tail.tail.tail.tail.head
  have e41 := (hl.tail.tail.tail.tail.tail.tail.tail.tail.head).trans h41
  have e42 := hl.tail.tail.tail.tail.tail.tail.tail.tail.tail.head
  have e47 := (hl.tail.tail.tail.tail.tail.tail.tail.tail.tail.tail.head).trans h47
  have e519 := (hl.tail.tail.tail.tail.tail.tail.tail.tail.tail.tail.tail.head).trans h519
  rw [frame_lit, e0, e8, e9, e10, e11, e12, e13, e14, e41, e42, e47, e519, o520]
  clear e0 e8 e9 e10 e11 e12 e13 e14 e41 e42 e47 e519 hl o520
  conv => arg 2; whnf
  have H41 : Hid (x 41 = .slice (some ⟨ab, 0, none⟩) m m) := h41
  have H47 : Hid (x 47 = .slice (some ⟨cb, 0, none⟩) m m) := h47
  have H519 : Hid (x 519 = .int .i64 (m : Nat)) := h519
  clear h41 h47 h519
  by_cases hlt : j < m
  · have i1 : (j : Int) < (m : Int) := by omega
    have cA := hg.cell (hA j hlt) (by simp)
    have cB := hg.cell (hB j hlt) (by simp)
    have hq := neq50 (p j)
    obtain ⟨q, hp⟩ : ∃ q, q = p j := ⟨_, rfl⟩
    rw [← hp] at cA cB hq
    clear hp
    go_wp2
    go_quiet (fail)
    go_wp2
    refine ⟨end_frame rfl (fun y hy => ⟨j + 1, live_cons (hy 0) (live_cons (hy 8) (live_cons (hy 9) (live_cons (hy 10) (live_cons (hy 11) (live_cons (hy 12) (live_cons (hy 13) (live_cons (hy 14) (live_cons ((hy 41).trans H41.out.symm) (live_cons (hy 42) (live_cons ((hy 47).trans H47.out.symm) (live_cons ((hy 519).trans H519.out.symm) (live_nil _)))))))))))), hy 520, by omega, hg.trans (grown_drewN _ _ none)⟩), ?_⟩
    show m - (intOf (.int .i64 ((j : Int) + 1))).toNat < m - (intOf (.int .i64 (j : Int))).toNat
    simp [intOf]; omega
  · have hd : decide ((j : Int) < (m : Int)) = false := by simp; omega
    have hd2 : decide (j < m) = false := by simp; omega
    obtain rfl : j = m := by omega
    go_wp2
    refine at_frame (Q := fun a w => Q _ a w) rfl (fun y hy => ?_)
    exact hexit y _ (live_cons (hy 0) (live_cons (hy 8) (live_cons (hy 9) (live_cons (hy 10) (live_cons (hy 11) (live_cons (hy 12) (live_cons (hy 13) (live_cons (hy 14) (live_cons ((hy 41).trans H41.out.symm) (live_cons (hy 42) (live_cons ((hy 47).trans H47.out.symm) (live_cons ((hy 519).trans H519.out.symm) (live_nil _))))))))))))) hg
end Go.Proofs.Ybulkeidm
