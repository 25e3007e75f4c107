/-
  LawS6720BWhole: the dense places of a read.
-/
import Derived.Test.YbulkeidmPlc
namespace Go.Proofs.Ybulkeidm
open Go.RowKit

set_option maxHeartbeats 4000000 in
set_option maxRecDepth 100000 in
theorem loop19 (x : Nat → Value) (w : World) (Q : Exit → Act → World → Prop) (N i tb sb so n nc nf : Nat) (ca fa : Option Addr) (U : Nat → Nat) (b : Bool) (d : ObIn) (h42 : x 42 = .slice (some ⟨tb, 0, none⟩) N N) (h52 : x 52 = .int .i64 (i : Nat)) (h53 : x 53 = .pointer (some ⟨sb, so, none⟩)) (h65 : x 65 = .slice ca n nc) (h66 : x 66 = .slice fa n nf) (h708 : x 708 = .int .i64 (n : Nat)) (h709 : x 709 = .int .i64 0)
    (hn : n ≤ 8) (hi : i < N) (hU : ∀ q, U q = updLen d q) (ct : w.cell? ⟨tb, i, none⟩ = some (.bool b)) (hD : DnAt U b w ca fa n) (hO : ObAt w sb so d)
    (hexit : ∀ x' w', Live [(0, x 0), (8, x 8), (9, x 9), (10, x 10), (11, x 11), (12, x 12), (13, x 13), (42, x 42), (52, x 52), (53, x 53), (63, x 63), (64, x 64), (65, x 65), (66, x 66), (538, x 538), (539, x 539), (676, x 676), (677, x 677), (678, x 678), (708, x 708)] x' → w.grownBy w' none → Q (.exit 36) ⟨frame x', []⟩ w') :
    Code.wp Yba.prog (.loop (loopAt Yba.f3 18)) Q ⟨frame x, []⟩ w := by
  refine wp_loop (fun a w' => ∃ (x' : Nat → Value), a = ⟨frame x', []⟩ ∧ ∃ (j : Nat), Live [(0, x 0), (8, x 8), (9, x 9), (10, x 10), (11, x 11), (12, x 12), (13, x 13), (42, x 42), (52, x 52), (53, x 53), (63, x 63), (64, x 64), (65, x 65), (66, x 66), (538, x 538), (539, x 539), (676, x 676), (677, x 677), (678, x 678), (708, x 708)] x' ∧ x' 709 = .int .i64 (j : Nat) ∧ j ≤ n ∧ w.grownBy w' none) (fun a _ => n - (intOf (a.tmps.getD 709 (.bool false))).toNat) ⟨x, rfl, 0, live_cons (rfl) (live_cons (rfl) (live_cons (rfl) (live_cons (rfl) (live_cons (rfl) (live_cons (rfl) (live_cons (rfl) (live_cons (rfl) (live_cons (rfl) (live_cons (rfl) (live_cons (rfl) (live_cons (rfl) (live_cons (rfl) (live_cons (rfl) (live_cons (rfl) (live_cons (rfl) (live_cons (rfl) (live_cons (rfl) (live_cons (rfl) (live_cons (rfl) (live_nil _)))))))))))))))))))), h709, by omega, World.grownBy.refl _ _⟩ ?_
  rintro a w' ⟨x', rfl, j, hl, o709, hj, hg⟩
  have e0 := hl.head
  have e8 := hl.tail.head
  have e9 := hl.tail.tail.head
  have e10 := hl.tail.tail.tail.head
  have e11 := hl.tail.tail.tail.tail.head
  have e12 := hl.tail.tail.tail.tail.tail.head
  have e13 := hl.tail.tail.tail.tail.tail.tail.head
  have e42 := (hl.tail.tail.tail.tail.tail.tail.tail.head).trans h42
  have e52 := (hl.tail.tail.tail.tail.tail.tail.tail.tail.head).trans h52
  have e53 := (hl.tail.tail.tail.tail.tail.tail.tail.tail.tail.head).trans h53
  have e63 := hl.tail.tail.tail.tail.tail.tail.tail.tail.tail.tail.head
  have e64 := hl.tail.tail.tail.tail.tail.tail.tail.tail.tail.tail.tail.head
  have e65 := (hl.tail.tail.tail.tail.tail.tail.tail.tail.tail.tail.tail.tail.head).trans h65
  have e66 := (hl.tail.tail.tail.tail.tail.tail.tail.tail.tail.tail.tail.tail.tail.head).trans h66
  have e538 := hl.tail.tail.tail.tail.tail.tail.tail.tail.tail.tail.tail.tail.tail.tail.head
  have e539 := hl.tail.tail.tail.tail.tail.tail.tail.tail.tail.tail.tail.tail.tail.tail.tail.head
  have e676 := hl.tail.tail.tail.tail.tail.tail.tail.tail.tail.tail.tail.tail.tail.tail.tail.tail.head
  have e677 := hl.tail.tail.tail.tail.tail.tail.tail.tail.tail.tail.tail.tail.tail.tail.tail.tail.tail.head
  have e678 := hl.tail.tail.tail.tail.tail.tail.tail.tail.tail.tail.tail.tail.tail.tail.tail.tail.tail.tail.head
  have e708 := (hl.tail.tail.tail.tail.tail.tail.tail.tail.tail.tail.tail.tail.tail.tail.tail.tail.tail.tail.tail.head).trans h708
  rw [frame_lit, e0, e8, e9, e10, e11, e12, e13, e42, e52, e53, e63, e64, e65, e66, e538, e539, e676, e677, e678, e708, o709]
  clear e0 e8 e9 e10 e11 e12 e13 e42 e52 e53 e63 e64 e65 e66 e538 e539 e676 e677 e678 e708 hl o709
  conv => arg 2; whnf
  have H42 : Hid (x 42 = .slice (some ⟨tb, 0, none⟩) N N) := h42
  have H52 : Hid (x 52 = .int .i64 (i : Nat)) := h52
  have H53 : Hid (x 53 = .pointer (some ⟨sb, so, none⟩)) := h53
  have H65 : Hid (x 65 = .slice ca n nc) := h65
  have H66 : Hid (x 66 = .slice fa n nf) := h66
  have H708 : Hid (x 708 = .int .i64 (n : Nat)) := h708
  clear h42 h52 h53 h65 h66 h708
  by_cases hlt : j < n
  · have i1 : (j : Int) < (n : Int) := by omega
    have i2 : (i : Int) < (N : Int) := by omega
    obtain ⟨cb, fb, a, rfl, rfl, ca', cf'⟩ := (hD.grown hg) j hlt
    have ct' := hg.cell ct (by simp)
    cases b with
    | false =>
      simp only [cond_false] at cf'
      go_wp2
      refine ⟨end_frame rfl (fun y hy => ⟨j + 1, live_cons (hy 0) (live_cons (hy 8) (live_cons (hy 9) (live_cons (hy 10) (live_cons (hy 11) (live_cons (hy 12) (live_cons (hy 13) (live_cons ((hy 42).trans H42.out.symm) (live_cons ((hy 52).trans H52.out.symm) (live_cons ((hy 53).trans H53.out.symm) (live_cons (hy 63) (live_cons (hy 64) (live_cons ((hy 65).trans H65.out.symm) (live_cons ((hy 66).trans H66.out.symm) (live_cons (hy 538) (live_cons (hy 539) (live_cons (hy 676) (live_cons (hy 677) (live_cons (hy 678) (live_cons ((hy 708).trans H708.out.symm) (live_nil _)))))))))))))))))))), hy 709, by omega, hg⟩), ?_⟩
      show n - (intOf (.int .i64 ((j : Int) + 1))).toNat < n - (intOf (.int .i64 (j : Int))).toNat
      simp [intOf]; omega
    | true =>
      simp only [cond_true, stOne, hU] at cf'
      by_cases ha : a < 0
      · rw [if_pos ha] at cf'
        have HU := updlen_any sb so j d w' (hO.below (below_of_grown hg) (Nat.le_refl _))
        have h5 := updLen_le d j
        obtain ⟨m, hm⟩ : ∃ m, m = updLen d j := ⟨_, rfl⟩
        rw [← hm] at cf' HU h5
        clear hm
        have hda : decide (a < 0) = true := by simpa using ha
        go_wp2_with (go_at_call 4; refine HU.mono ?_; rintro e w1 ⟨rfl, rfl⟩)
        refine ⟨end_frame rfl (fun y hy => ⟨j + 1, live_cons (hy 0) (live_cons (hy 8) (live_cons (hy 9) (live_cons (hy 10) (live_cons (hy 11) (live_cons (hy 12) (live_cons (hy 13) (live_cons ((hy 42).trans H42.out.symm) (live_cons ((hy 52).trans H52.out.symm) (live_cons ((hy 53).trans H53.out.symm) (live_cons (hy 63) (live_cons (hy 64) (live_cons ((hy 65).trans H65.out.symm) (live_cons ((hy 66).trans H66.out.symm) (live_cons (hy 538) (live_cons (hy 539) (live_cons (hy 676) (live_cons (hy 677) (live_cons (hy 678) (live_cons ((hy 708).trans H708.out.symm) (live_nil _)))))))))))))))))))), hy 709, by omega, hg⟩), ?_⟩
        show n - (intOf (.int .i64 ((j : Int) + 1))).toNat < n - (intOf (.int .i64 (j : Int))).toNat
        simp [intOf]; omega
      · rw [if_neg ha] at cf'
        have hda : decide (a < 0) = false := by simpa using ha
        go_wp2
        refine ⟨end_frame2 rfl (fun y hy => ⟨live_cons (hy 0) (live_cons (hy 8) (live_cons (hy 9) (live_cons (hy 10) (live_cons (hy 11) (live_cons (hy 12) (live_cons (hy 13) (live_cons ((hy 42).trans H42.out.symm) (live_cons ((hy 52).trans H52.out.symm) (live_cons ((hy 53).trans H53.out.symm) (live_cons (hy 63) (live_cons (hy 64) (live_cons ((hy 65).trans H65.out.symm) (live_cons ((hy 66).trans H66.out.symm) (live_cons (hy 538) (live_cons (hy 539) (live_cons (hy 676) (live_cons (hy 677) (live_cons (hy 678) (live_cons ((hy 708).trans H708.out.symm) (live_nil _)))))))))))))))))))), j + 1, hy 709, by omega⟩), ?_⟩
        show n - (intOf (.int .i64 ((j : Int) + 1))).toNat < n - (intOf (.int .i64 (j : Int))).toNat
        simp [intOf]; omega
  · have hd : decide ((j : Int) < (n : Int)) = false := by simp; omega
    have hd2 : decide (j < n) = false := by simp; omega
    obtain rfl : j = n := by omega
    go_wp2
    refine at_frame (Q := fun a w => Q _ a w) rfl (fun y hy => ?_)
    exact hexit y _ (live_cons (hy 0) (live_cons (hy 8) (live_cons (hy 9) (live_cons (hy 10) (live_cons (hy 11) (live_cons (hy 12) (live_cons (hy 13) (live_cons ((hy 42).trans H42.out.symm) (live_cons ((hy 52).trans H52.out.symm) (live_cons ((hy 53).trans H53.out.symm) (live_cons (hy 63) (live_cons (hy 64) (live_cons ((hy 65).trans H65.out.symm) (live_cons ((hy 66).trans H66.out.symm) (live_cons (hy 538) (live_cons (hy 539) (live_cons (hy 676) (live_cons (hy 677) (live_cons (hy 678) (live_cons ((hy 708).trans H708.out.symm) (live_nil _))))))))))))))))))))) hg
end Go.Proofs.Ybulkeidm
