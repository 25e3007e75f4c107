/-
  LawS6720BWhole: the reads stand as expected.
-/
import Derived.Test.YbulkeidmChk
namespace Go.Proofs.Ybulkeidm
open Go.RowKit

set_option maxHeartbeats 4000000 in
set_option maxRecDepth 100000 in
theorem loop17 (x : Nat → Value) (w : World) (Q : Exit → Act → World → Prop) (oo xb pr m cr : Nat) (L : List Nat) (h55 : x 55 = .pointer (some ⟨oo, 0, none⟩)) (h58 : x 58 = .slice (some ⟨xb, 0, none⟩) m m) (h659 : x 659 = .int .i64 (m : Nat)) (h660 : x 660 = .int .i64 0)
    (hL : L.length = m) (hm : m ≤ 1954687338268) (c3 : w.cell? ⟨oo, 3, none⟩ = some (.slice (some ⟨pr, 0, none⟩) m cr)) (hA : PRow w pr L) (hB : PRow w xb L)
    (hexit : ∀ x' w', Live [(0, x 0), (8, x 8), (9, x 9), (10, x 10), (11, x 11), (12, x 12), (13, x 13), (42, x 42), (52, x 52), (53, x 53), (55, x 55), (57, x 57), (58, x 58), (538, x 538), (539, x 539), (659, x 659)] x' → w.grownBy w' none → Q (.exit 32) ⟨frame x', []⟩ w') :
    Code.wp Yba.prog (.loop (loopAt Yba.f3 16)) Q ⟨frame x, []⟩ w := by
  refine wp_loop (fun a w' => ∃ (x' : Nat → Value), a = ⟨frame x', []⟩ ∧ ∃ (j : Nat), Live [(0, x 0), (8, x 8), (9, x 9), (10, x 10), (11, x 11), (12, x 12), (13, x 13), (42, x 42), (52, x 52), (53, x 53), (55, x 55), (57, x 57), (58, x 58), (538, x 538), (539, x 539), (659, x 659)] x' ∧ x' 660 = .int .i64 (j : Nat) ∧ j ≤ m ∧ w.grownBy w' none) (fun a _ => m - (intOf (a.tmps.getD 660 (.bool false))).toNat) ⟨x, rfl, 0, live_cons (rfl) (live_cons (rfl) (live_cons (rfl) (live_cons (rfl) (live_cons (rfl) (live_cons (rfl) (live_cons (rfl) (live_cons (rfl) (live_cons (rfl) (live_cons (rfl) (live_cons (rfl) (live_cons (rfl) (live_cons (rfl) (live_cons (rfl) (live_cons (rfl) (live_cons (rfl) (live_nil _)))))))))))))))), h660, by omega, World.grownBy.refl _ _⟩ ?_
  rintro a w' ⟨x', rfl, j, hl, o660, hj, hg⟩
  have e0 := hl.head
  have e8 := hl.tail.head
  have e9 := hl.tail.tail.head
  have e10 := hl.tail.tail.tail.head
  have e11 := hl.tail.tail.tail.tail.head
  have e12 := hl.tail.tail.tail.tail.tail.head
  have e13 := hl.tail.tail.tail.tail.tail.tail.head
  have e42 := hl.tail.tail.tail.tail.tail.tail.tail.head
  have e52 := hl.tail.tail.tail.tail.tail.tail.tail.tail.head
  have e53 := hl.tail.tail.tail.tail.tail.tail.tail.tail.tail.head
  have e55 := (hl.tail.tail.tail.tail.tail.tail.tail.tail.tail.tail.head).trans h55
  have e57 := hl.tail.tail.tail.tail.tail.tail.tail.tail.tail.tail.tail.head
  have e58 := (hl.tail.tail.tail.tail.tail.tail.tail.tail.tail.tail.tail.tail.head).trans h58
  have e538 := hl.tail.tail.tail.tail.tail.tail.tail.tail.tail.tail.tail.tail.tail.head
  have e539 := hl.tail.tail.tail.tail.tail.tail.tail.tail.tail.tail.tail.tail.tail.tail.head
  have e659 := (hl.tail.tail.tail.tail.tail.tail.tail.tail.tail.tail.tail.tail.tail.tail.tail.head).trans h659
  rw [frame_lit, e0, e8, e9, e10, e11, e12, e13, e42, e52, e53, e55, e57, e58, e538, e539, e659, o660]
  clear e0 e8 e9 e10 e11 e12 e13 e42 e52 e53 e55 e57 e58 e538 e539 e659 hl o660
  conv => arg 2; whnf
  have H55 : Hid (x 55 = .pointer (some ⟨oo, 0, none⟩)) := h55
  have H58 : Hid (x 58 = .slice (some ⟨xb, 0, none⟩) m m) := h58
  have H659 : Hid (x 659 = .int .i64 (m : Nat)) := h659
  clear h55 h58 h659
  by_cases hlt : j < m
  · have i1 : (j : Int) < (m : Int) := by omega
    have cA := (hA.block (hg.block pr hA.lt (by simp))).cell j (by omega)
    have cB := (hB.block (hg.block xb hB.lt (by simp))).cell j (by omega)
    have c3' := hg.cell c3 (by simp)
    have hq := neq47 (L[j]'(by omega))
    obtain ⟨p, hp⟩ : ∃ p, p = L[j]'(by omega) := ⟨_, rfl⟩
    rw [← hp] at cA cB hq
    clear hp
    go_wp2
    go_quiet (fail)
    go_wp2
    refine ⟨end_frame rfl (fun y hy => ⟨j + 1, live_cons (hy 0) (live_cons (hy 8) (live_cons (hy 9) (live_cons (hy 10) (live_cons (hy 11) (live_cons (hy 12) (live_cons (hy 13) (live_cons (hy 42) (live_cons (hy 52) (live_cons (hy 53) (live_cons ((hy 55).trans H55.out.symm) (live_cons (hy 57) (live_cons ((hy 58).trans H58.out.symm) (live_cons (hy 538) (live_cons (hy 539) (live_cons ((hy 659).trans H659.out.symm) (live_nil _)))))))))))))))), hy 660, by omega, hg.trans (grown_drewN _ _ none)⟩), ?_⟩
    show m - (intOf (.int .i64 ((j : Int) + 1))).toNat < m - (intOf (.int .i64 (j : Int))).toNat
    simp [intOf]; omega
  · have hd : decide ((j : Int) < (m : Int)) = false := by simp; omega
    have hd2 : decide (j < m) = false := by simp; omega
    obtain rfl : j = m := by omega
    go_wp2
    refine at_frame (Q := fun a w => Q _ a w) rfl (fun y hy => ?_)
    exact hexit y _ (live_cons (hy 0) (live_cons (hy 8) (live_cons (hy 9) (live_cons (hy 10) (live_cons (hy 11) (live_cons (hy 12) (live_cons (hy 13) (live_cons (hy 42) (live_cons (hy 52) (live_cons (hy 53) (live_cons ((hy 55).trans H55.out.symm) (live_cons (hy 57) (live_cons ((hy 58).trans H58.out.symm) (live_cons (hy 538) (live_cons (hy 539) (live_cons ((hy 659).trans H659.out.symm) (live_nil _))))))))))))))))) hg
end Go.Proofs.Ybulkeidm
