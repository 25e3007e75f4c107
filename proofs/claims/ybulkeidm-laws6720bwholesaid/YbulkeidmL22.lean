/-
  LawS6720BWhole: the pairs stand as expected.
-/
import Derived.Test.YbulkeidmPlc
namespace Go.Proofs.Ybulkeidm
open Go.RowKit

set_option maxHeartbeats 4000000 in
set_option maxRecDepth 100000 in
theorem loop22 (x : Nat → Value) (w : World) (Q : Exit → Act → World → Prop) (wa fa : Option Addr) (m wc fc : Nat) (Z : List (Int × Int)) (h70 : x 70 = .slice wa m wc) (h74 : x 74 = .slice fa m fc) (h776 : x 776 = .int .i64 (m : Nat)) (h777 : x 777 = .int .i64 0)
    (hZ : Z.length = m) (hm : m ≤ 8) (hW : PrAt w wa Z) (hF : PrAt w fa Z)
    (hexit : ∀ x' w', Live [(0, x 0), (8, x 8), (9, x 9), (10, x 10), (11, x 11), (12, x 12), (13, x 13), (42, x 42), (52, x 52), (53, x 53), (63, x 63), (64, x 64), (70, x 70), (74, x 74), (538, x 538), (539, x 539), (676, x 676), (677, x 677), (678, x 678), (776, x 776)] x' → w.grownBy w' none → Q (.exit 42) ⟨frame x', []⟩ w') :
    Code.wp Yba.prog (.loop (loopAt Yba.f3 21)) Q ⟨frame x, []⟩ w := by
  refine wp_loop (fun a w' => ∃ (x' : Nat → Value), a = ⟨frame x', []⟩ ∧ ∃ (j : Nat), Live [(0, x 0), (8, x 8), (9, x 9), (10, x 10), (11, x 11), (12, x 12), (13, x 13), (42, x 42), (52, x 52), (53, x 53), (63, x 63), (64, x 64), (70, x 70), (74, x 74), (538, x 538), (539, x 539), (676, x 676), (677, x 677), (678, x 678), (776, x 776)] x' ∧ x' 777 = .int .i64 (j : Nat) ∧ j ≤ m ∧ w.grownBy w' none) (fun a _ => m - (intOf (a.tmps.getD 777 (.bool false))).toNat) ⟨x, rfl, 0, live_cons (rfl) (live_cons (rfl) (live_cons (rfl) (live_cons (rfl) (live_cons (rfl) (live_cons (rfl) (live_cons (rfl) (live_cons (rfl) (live_cons (rfl) (live_cons (rfl) (live_cons (rfl) (live_cons (rfl) (live_cons (rfl) (live_cons (rfl) (live_cons (rfl) (live_cons (rfl) (live_cons (rfl) (live_cons (rfl) (live_cons (rfl) (live_cons (rfl) (live_nil _)))))))))))))))))))), h777, by omega, World.grownBy.refl _ _⟩ ?_
  rintro a w' ⟨x', rfl, j, hl, o777, hj, hg⟩
  have e0 := hl.head
  have e8 := hl.tail.head
  have e9 := hl.tail.tail.head
  have e10 := hl.tail.tail.tail.head
  have e11 := hl.tail.tail.tail.tail.head
  have e12 := hl.tail.tail.tail.tail.tail.head
  have e13 := hl.tail.tail.tail.tail.tail.tail.head
  have e42 := hl.tail.tail.tail.tail.tail.tail.tail.head
  have e52 := hl.tail.tail.tail.tail.tail.tail.tail.tail.head
  have e53 := hl.tail.tail.tail.tail.tail.tail.tail.tail.tail.head
  have e63 := hl.tail.tail.tail.tail.tail.tail.tail.tail.tail.tail.head
  have e64 := hl.tail.tail.tail.tail.tail.tail.tail.tail.tail.tail.tail.head
  have e70 := (hl.tail.tail.tail.tail.tail.tail.tail.tail.tail.tail.tail.tail.head).trans h70
  have e74 := (hl.tail.tail.tail.tail.tail.tail.tail.tail.tail.tail.tail.tail.tail.head).trans h74
  have e538 := hl.tail.tail.tail.tail.tail.tail.tail.tail.tail.tail.tail.tail.tail.tail.head
  have e539 := hl.tail.tail.tail.tail.tail.tail.tail.tail.tail.tail.tail.tail.tail.tail.tail.head
  have e676 := hl.tail.tail.tail.tail.tail.tail.tail.tail.tail.tail.tail.tail.tail.tail.tail.tail.head
  have e677 := hl.tail.tail.tail.tail.tail.tail.tail.tail.tail.tail.tail.tail.tail.tail.tail.tail.tail.head
  have e678 := hl.tail.tail.tail.tail.tail.tail.tail.tail.tail.tail.tail.tail.tail.tail.tail.tail.tail.tail.head
  have e776 := (hl.tail.tail.tail.tail.tail.tail.tail.tail.tail.tail.tail.tail.tail.tail.tail.tail.tail.tail.tail.head).trans h776
  rw [frame_lit, e0, e8, e9, e10, e11, e12, e13, e42, e52, e53, e63, e64, e70, e74, e538, e539, e676, e677, e678, e776, o777]
  clear e0 e8 e9 e10 e11 e12 e13 e42 e52 e53 e63 e64 e70 e74 e538 e539 e676 e677 e678 e776 hl o777
  conv => arg 2; whnf
  have H70 : Hid (x 70 = .slice wa m wc) := h70
  have H74 : Hid (x 74 = .slice fa m fc) := h74
  have H776 : Hid (x 776 = .int .i64 (m : Nat)) := h776
  clear h70 h74 h776
  by_cases hlt : j < m
  · have i1 : (j : Int) < (m : Int) := by omega
    obtain ⟨wb, rfl, cw1, cw2⟩ := (hW.grown hg) j (by omega)
    obtain ⟨fb, rfl, cf1, cf2⟩ := (hF.grown hg) j (by omega)
    have hq := neq62 (Z[j]'(by omega)).1 (Z[j]'(by omega)).2
    obtain ⟨p, hp⟩ : ∃ p, p = (Z[j]'(by omega)).1 := ⟨_, rfl⟩
    obtain ⟨r, hr⟩ : ∃ r, r = (Z[j]'(by omega)).2 := ⟨_, rfl⟩
    rw [← hp, ← hr] at hq
    rw [← hp] at cw1 cf1
    rw [← hr] at cw2 cf2
    clear hp hr
    go_wp2
    go_quiet (fail)
    go_wp2
    refine ⟨end_frame rfl (fun y hy => ⟨j + 1, live_cons (hy 0) (live_cons (hy 8) (live_cons (hy 9) (live_cons (hy 10) (live_cons (hy 11) (live_cons (hy 12) (live_cons (hy 13) (live_cons (hy 42) (live_cons (hy 52) (live_cons (hy 53) (live_cons (hy 63) (live_cons (hy 64) (live_cons ((hy 70).trans H70.out.symm) (live_cons ((hy 74).trans H74.out.symm) (live_cons (hy 538) (live_cons (hy 539) (live_cons (hy 676) (live_cons (hy 677) (live_cons (hy 678) (live_cons ((hy 776).trans H776.out.symm) (live_nil _)))))))))))))))))))), hy 777, by omega, hg.trans (grown_drewN _ _ none)⟩), ?_⟩
    show m - (intOf (.int .i64 ((j : Int) + 1))).toNat < m - (intOf (.int .i64 (j : Int))).toNat
    simp [intOf]; omega
  · have hd : decide ((j : Int) < (m : Int)) = false := by simp; omega
    have hd2 : decide (j < m) = false := by simp; omega
    obtain rfl : j = m := by omega
    go_wp2
    refine at_frame (Q := fun a w => Q _ a w) rfl (fun y hy => ?_)
    exact hexit y _ (live_cons (hy 0) (live_cons (hy 8) (live_cons (hy 9) (live_cons (hy 10) (live_cons (hy 11) (live_cons (hy 12) (live_cons (hy 13) (live_cons (hy 42) (live_cons (hy 52) (live_cons (hy 53) (live_cons (hy 63) (live_cons (hy 64) (live_cons ((hy 70).trans H70.out.symm) (live_cons ((hy 74).trans H74.out.symm) (live_cons (hy 538) (live_cons (hy 539) (live_cons (hy 676) (live_cons (hy 677) (live_cons (hy 678) (live_cons ((hy 776).trans H776.out.symm) (live_nil _))))))))))))))))))))) hg
end Go.Proofs.Ybulkeidm
