/-
  LawS6720BWhole: the buckets of pairs.
-/
import Derived.Test.YbulkeidmL21
namespace Go.Proofs.Ybulkeidm
open Go.RowKit

set_option maxHeartbeats 4000000 in
set_option maxRecDepth 100000 in
theorem loop20 (x : Nat → Value) (w : World) (Q : Exit → Act → World → Prop) (m mc : Nat) (ao : Option Addr) (v : List (Int × Int)) (h69 : x 69 = .slice ao m mc) (h70 : x 70 = .slice none 0 0) (h71 : x 71 = .int .i64 0)
    (hv : v.length = m) (hm : m ≤ 8) (hP : PrAt w ao v)
    (hexit : ∀ x' w', Live [(0, x 0), (8, x 8), (9, x 9), (10, x 10), (11, x 11), (12, x 12), (13, x 13), (42, x 42), (52, x 52), (53, x 53), (63, x 63), (64, x 64), (69, x 69), (538, x 538), (539, x 539), (676, x 676), (677, x 677), (678, x 678)] x' → w.grownBy w' none → w'.ownsRow w.heap.size 62 2 (x' 70) (stFst v).length ((stFst v).flatMap encP) → Q (.exit 38) ⟨frame x', []⟩ w') :
    Code.wp Yba.prog (.loop (loopAt Yba.f3 19)) Q ⟨frame x, []⟩ w := by
  refine wp_loop (fun a w' => ∃ (x' : Nat → Value), a = ⟨frame x', []⟩ ∧ ∃ (q : Nat), Live [(0, x 0), (8, x 8), (9, x 9), (10, x 10), (11, x 11), (12, x 12), (13, x 13), (42, x 42), (52, x 52), (53, x 53), (63, x 63), (64, x 64), (69, x 69), (538, x 538), (539, x 539), (676, x 676), (677, x 677), (678, x 678)] x' ∧ x' 71 = .int .i64 (q : Nat) ∧ q ≤ 8 ∧ w.grownBy w' none ∧ w'.ownsRow w.heap.size 62 2 (x' 70) (bkt v q).length ((bkt v q).flatMap encP)) (fun a _ => 8 - (intOf (a.tmps.getD 71 (.bool false))).toNat) ⟨x, rfl, 0, live_cons (rfl) (live_cons (rfl) (live_cons (rfl) (live_cons (rfl) (live_cons (rfl) (live_cons (rfl) (live_cons (rfl) (live_cons (rfl) (live_cons (rfl) (live_cons (rfl) (live_cons (rfl) (live_cons (rfl) (live_cons (rfl) (live_cons (rfl) (live_cons (rfl) (live_cons (rfl) (live_cons (rfl) (live_cons (rfl) (live_nil _)))))))))))))))))), h71, by omega, World.grownBy.refl _ _, by rw [h70]; exact ⟨rfl, .inl ⟨rfl, rfl⟩⟩⟩ ?_
  clear h70 h71
  rintro a w' ⟨x', rfl, q, hl, o71, hq, hg, hown⟩
  obtain ⟨fv, o70⟩ : ∃ fv, x' 70 = fv := ⟨_, rfl⟩
  rw [o70] at hown
  have e0 := hl.head
  have e8 := hl.tail.head
  have e9 := hl.tail.tail.head
  have e10 := hl.tail.tail.tail.head
  have e11 := hl.tail.tail.tail.tail.head
  have e12 := hl.tail.tail.tail.tail.tail.head
  have e13 := hl.tail.tail.tail.tail.tail.tail.head
  have e42 := hl.tail.tail.tail.tail.tail.tail.tail.head
  have e52 := hl.tail.tail.tail.tail.tail.tail.tail.tail.head
  have e53 := hl.tail.tail.tail.tail.tail.tail.tail.tail.tail.head
  have e63 := hl.tail.tail.tail.tail.tail.tail.tail.tail.tail.tail.head
  have e64 := hl.tail.tail.tail.tail.tail.tail.tail.tail.tail.tail.tail.head
  have e69 := (hl.tail.tail.tail.tail.tail.tail.tail.tail.tail.tail.tail.tail.head).trans h69
  have e538 := hl.tail.tail.tail.tail.tail.tail.tail.tail.tail.tail.tail.tail.tail.head
  have e539 := hl.tail.tail.tail.tail.tail.tail.tail.tail.tail.tail.tail.tail.tail.tail.head
  have e676 := hl.tail.tail.tail.tail.tail.tail.tail.tail.tail.tail.tail.tail.tail.tail.tail.head
  have e677 := hl.tail.tail.tail.tail.tail.tail.tail.tail.tail.tail.tail.tail.tail.tail.tail.tail.head
  have e678 := hl.tail.tail.tail.tail.tail.tail.tail.tail.tail.tail.tail.tail.tail.tail.tail.tail.tail.head
  rw [frame_lit, e0, e8, e9, e10, e11, e12, e13, e42, e52, e53, e63, e64, e69, e538, e539, e676, e677, e678, o71, o70]
  clear e0 e8 e9 e10 e11 e12 e13 e42 e52 e53 e63 e64 e69 e538 e539 e676 e677 e678 hl o71 o70
  conv => arg 2; whnf
  have H69 : Hid (x 69 = .slice ao m mc) := h69
  clear h69
  by_cases hlt : q < 8
  · have i1 : (q : Int) < 8 := by omega
    go_wp2
    refine wp_frame rfl (fun x1 hx => ?_)
    refine loop21 x1 w' w _ q m mc ao v (bkt v q) (hx 71) (hx 749) (hx 750) (hx 751) hv hm (by have := bkt_len v (by omega) q; omega) hP hg (by rw [show x1 70 = fv from hx 70]; exact hown) ?_
    rintro x2 w2 hl2 hg2 hown2
    obtain ⟨fv2, e70⟩ : ∃ fv2, x2 70 = fv2 := ⟨_, rfl⟩
    rw [e70, ← bkt_succ] at hown2
    have e0 : x2 0 = x 0 := (hl2.head).trans (hx 0)
    have e8 : x2 8 = x 8 := (hl2.tail.head).trans (hx 8)
    have e9 : x2 9 = x 9 := (hl2.tail.tail.head).trans (hx 9)
    have e10 : x2 10 = x 10 := (hl2.tail.tail.tail.head).trans (hx 10)
    have e11 : x2 11 = x 11 := (hl2.tail.tail.tail.tail.head).trans (hx 11)
    have e12 : x2 12 = x 12 := (hl2.tail.tail.tail.tail.tail.head).trans (hx 12)
    have e13 : x2 13 = x 13 := (hl2.tail.tail.tail.tail.tail.tail.head).trans (hx 13)
    have e42 : x2 42 = x 42 := (hl2.tail.tail.tail.tail.tail.tail.tail.head).trans (hx 42)
    have e52 : x2 52 = x 52 := (hl2.tail.tail.tail.tail.tail.tail.tail.tail.head).trans (hx 52)
    have e53 : x2 53 = x 53 := (hl2.tail.tail.tail.tail.tail.tail.tail.tail.tail.head).trans (hx 53)
    have e63 : x2 63 = x 63 := (hl2.tail.tail.tail.tail.tail.tail.tail.tail.tail.tail.head).trans (hx 63)
    have e64 : x2 64 = x 64 := (hl2.tail.tail.tail.tail.tail.tail.tail.tail.tail.tail.tail.head).trans (hx 64)
    have e69 : x2 69 = .slice ao m mc := (hl2.tail.tail.tail.tail.tail.tail.tail.tail.tail.tail.tail.tail.head).trans (hx 69)
    have e71 : x2 71 = .int .i64 (q : Nat) := (hl2.tail.tail.tail.tail.tail.tail.tail.tail.tail.tail.tail.tail.tail.head).trans (hx 71)
    have e538 : x2 538 = x 538 := (hl2.tail.tail.tail.tail.tail.tail.tail.tail.tail.tail.tail.tail.tail.tail.head).trans (hx 538)
    have e539 : x2 539 = x 539 := (hl2.tail.tail.tail.tail.tail.tail.tail.tail.tail.tail.tail.tail.tail.tail.tail.head).trans (hx 539)
    have e676 : x2 676 = x 676 := (hl2.tail.tail.tail.tail.tail.tail.tail.tail.tail.tail.tail.tail.tail.tail.tail.tail.head).trans (hx 676)
    have e677 : x2 677 = x 677 := (hl2.tail.tail.tail.tail.tail.tail.tail.tail.tail.tail.tail.tail.tail.tail.tail.tail.tail.head).trans (hx 677)
    have e678 : x2 678 = x 678 := (hl2.tail.tail.tail.tail.tail.tail.tail.tail.tail.tail.tail.tail.tail.tail.tail.tail.tail.tail.head).trans (hx 678)
    have e749 : x2 749 = .slice ao m mc := (hl2.tail.tail.tail.tail.tail.tail.tail.tail.tail.tail.tail.tail.tail.tail.tail.tail.tail.tail.tail.head).trans (hx 749)
    have e750 : x2 750 = .int .i64 (m : Nat) := (hl2.tail.tail.tail.tail.tail.tail.tail.tail.tail.tail.tail.tail.tail.tail.tail.tail.tail.tail.tail.tail.head).trans (hx 750)
    rw [frame_lit, e0, e8, e9, e10, e11, e12, e13, e42, e52, e53, e63, e64, e69, e71, e538, e539, e676, e677, e678, e749, e750, e70]
    clear e0 e8 e9 e10 e11 e12 e13 e42 e52 e53 e63 e64 e69 e71 e538 e539 e676 e677 e678 e749 e750 e70 hl2 hx
    go_wp2
    refine ⟨end_frame rfl (fun y hy => ⟨q + 1, live_cons (hy 0) (live_cons (hy 8) (live_cons (hy 9) (live_cons (hy 10) (live_cons (hy 11) (live_cons (hy 12) (live_cons (hy 13) (live_cons (hy 42) (live_cons (hy 52) (live_cons (hy 53) (live_cons (hy 63) (live_cons (hy 64) (live_cons ((hy 69).trans H69.out.symm) (live_cons (hy 538) (live_cons (hy 539) (live_cons (hy 676) (live_cons (hy 677) (live_cons (hy 678) (live_nil _)))))))))))))))))), hy 71, by omega, hg2, by rw [show y 70 = fv2 from hy 70]; exact hown2⟩), ?_⟩
    show 8 - (intOf (.int .i64 ((q : Int) + 1))).toNat < 8 - (intOf (.int .i64 (q : Int))).toNat
    simp [intOf]; omega
  · obtain rfl : q = 8 := by omega
    rw [bkt_all] at hown
    go_wp2
    refine at_frame (Q := fun a w => Q _ a w) rfl (fun y hy => ?_)
    exact hexit y _ (live_cons (hy 0) (live_cons (hy 8) (live_cons (hy 9) (live_cons (hy 10) (live_cons (hy 11) (live_cons (hy 12) (live_cons (hy 13) (live_cons (hy 42) (live_cons (hy 52) (live_cons (hy 53) (live_cons (hy 63) (live_cons (hy 64) (live_cons ((hy 69).trans H69.out.symm) (live_cons (hy 538) (live_cons (hy 539) (live_cons (hy 676) (live_cons (hy 677) (live_cons (hy 678) (live_nil _))))))))))))))))))) hg (by rw [show y 70 = fv from hy 70]; exact hown)
end Go.Proofs.Ybulkeidm
