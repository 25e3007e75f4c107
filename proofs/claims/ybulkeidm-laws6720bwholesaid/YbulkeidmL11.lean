/-
  LawS6720BWhole: got = want.
-/
import Derived.Test.YbulkeidmChk
namespace Go.Proofs.Ybulkeidm
open Go.RowKit

set_option maxHeartbeats 4000000 in
set_option maxRecDepth 100000 in
theorem loop11 (x : Nat → Value) (w : World) (Q : Exit → Act → World → Prop) (gb gc wb wc m : Nat) (p : Nat → Nat) (h49 : x 49 = .slice (some ⟨gb, 0, none⟩) m gc) (h43 : x 43 = .slice (some ⟨wb, 0, none⟩) m wc) (h504 : x 504 = .int .i64 (m : Nat)) (h505 : x 505 = .int .i64 0)
    (hm : m ≤ 4096) (hA : ∀ k, k < m → w.cell? ⟨gb, k, none⟩ = some (ptr (p k))) (hB : ∀ k, k < m → w.cell? ⟨wb, k, none⟩ = some (ptr (p k)))
    (hexit : ∀ x' w', Live [(0, x 0), (8, x 8), (9, x 9), (10, x 10), (11, x 11), (12, x 12), (13, x 13), (14, x 14), (41, x 41), (42, x 42), (43, x 43), (47, x 47), (49, x 49), (504, x 504)] x' → w.grownBy w' none → Q (.exit 20) ⟨frame x', []⟩ w') :
    Code.wp Yba.prog (.loop (loopAt Yba.f3 10)) Q ⟨frame x, []⟩ w := by
  refine wp_loop (fun a w' => ∃ (x' : Nat → Value), a = ⟨frame x', []⟩ ∧ ∃ (j : Nat), Live [(0, x 0), (8, x 8), (9, x 9), (10, x 10), (11, x 11), (12, x 12), (13, x 13), (14, x 14), (41, x 41), (42, x 42), (43, x 43), (47, x 47), (49, x 49), (504, x 504)] x' ∧ x' 505 = .int .i64 (j : Nat) ∧ j ≤ m ∧ w.grownBy w' none) (fun a _ => m - (intOf (a.tmps.getD 505 (.bool false))).toNat) ⟨x, rfl, 0, live_cons (rfl) (live_cons (rfl) (live_cons (rfl) (live_cons (rfl) (live_cons (rfl) (live_cons (rfl) (live_cons (rfl) (live_cons (rfl) (live_cons (rfl) (live_cons (rfl) (live_cons (rfl) (live_cons (rfl) (live_cons (rfl) (live_cons (rfl) (live_nil _)))))))))))))), h505, by omega, World.grownBy.refl _ _⟩ ?_
  rintro a w' ⟨x', rfl, j, hl, o505, hj, hg⟩
  have e0 := hl.head
  have e8 := hl.tail.head
  have e9 := hl.tail.tail.head
  have e10 := hl.tail.tail.tail.head
  have e11 := hl.tail.tail.tail.tail.head
  have e12 := hl.tail.tail.tail.tail.tail.head
  have e13 := hl.tail.tail.tail.tail.tail.tail.head
  have e14 := hl.tail.tail.tail.tail.tail.tail.tail.head
  have e41 := hl.tail.tail.tail.tail.tail.tail.tail.tail.head
  have e42 := hl.tail.tail.tail.tail.tail.tail.tail.tail.tail.head
  have e43 := (hl.tail.tail.tail.tail.tail.tail.tail.tail.tail.tail.head).trans h43
  have e47 := hl.tail.tail.tail.tail.tail.tail.tail.tail.tail.tail.tail.head
  have e49 := (hl.tail.tail.tail.tail.tail.tail.tail.tail.tail.tail.tail.tail.head).trans h49
  have e504 := (hl.tail.tail.tail.tail.tail.tail.tail.tail.tail.tail.tail.tail.tail.head).trans h504
  rw [frame_lit, e0, e8, e9, e10, e11, e12, e13, e14, e41, e42, e43, e47, e49, e504, o505]
  clear e0 e8 e9 e10 e11 e12 e13 e14 e41 e42 e43 e47 e49 e504 hl o505
  conv => arg 2; whnf
  have H49 : Hid (x 49 = .slice (some ⟨gb, 0, none⟩) m gc) := h49
  have H43 : Hid (x 43 = .slice (some ⟨wb, 0, none⟩) m wc) := h43
  have H504 : Hid (x 504 = .int .i64 (m : Nat)) := h504
  clear h49 h43 h504
  by_cases hlt : j < m
  · have i1 : (j : Int) < (m : Int) := by omega
    have cA := hg.cell (hA j hlt) (by simp)
    have cB := hg.cell (hB j hlt) (by simp)
    have hq := neq67 (p j)
    obtain ⟨q, hp⟩ : ∃ q, q = p j := ⟨_, rfl⟩
    rw [← hp] at cA cB hq
    clear hp
    go_wp2
    go_quiet (fail)
    go_wp2
    refine ⟨end_frame rfl (fun y hy => ⟨j + 1, live_cons (hy 0) (live_cons (hy 8) (live_cons (hy 9) (live_cons (hy 10) (live_cons (hy 11) (live_cons (hy 12) (live_cons (hy 13) (live_cons (hy 14) (live_cons (hy 41) (live_cons (hy 42) (live_cons ((hy 43).trans H43.out.symm) (live_cons (hy 47) (live_cons ((hy 49).trans H49.out.symm) (live_cons ((hy 504).trans H504.out.symm) (live_nil _)))))))))))))), hy 505, by omega, hg.trans (grown_drewN _ _ none)⟩), ?_⟩
    show m - (intOf (.int .i64 ((j : Int) + 1))).toNat < m - (intOf (.int .i64 (j : Int))).toNat
    simp [intOf]; omega
  · have hd : decide ((j : Int) < (m : Int)) = false := by simp; omega
    have hd2 : decide (j < m) = false := by simp; omega
    obtain rfl : j = m := by omega
    go_wp2
    refine at_frame (Q := fun a w => Q _ a w) rfl (fun y hy => ?_)
    exact hexit y _ (live_cons (hy 0) (live_cons (hy 8) (live_cons (hy 9) (live_cons (hy 10) (live_cons (hy 11) (live_cons (hy 12) (live_cons (hy 13) (live_cons (hy 14) (live_cons (hy 41) (live_cons (hy 42) (live_cons ((hy 43).trans H43.out.symm) (live_cons (hy 47) (live_cons ((hy 49).trans H49.out.symm) (live_cons ((hy 504).trans H504.out.symm) (live_nil _))))))))))))))) hg
end Go.Proofs.Ybulkeidm
