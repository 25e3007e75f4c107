/-
  LawS6720BWhole: the places of a dense read.
-/
import Derived.Test.YbulkeidmL4
namespace Go.Proofs.Ybulkeidm
open Go.RowKit

/-- What a dense read is told of replica k. -/
def foInit (r : RdIn) (k : Nat) : Int := if k < r.pl then r.pv k else -1

set_option maxHeartbeats 2000000 in
set_option maxRecDepth 100000 in
theorem loop7 (x : Nat → Value) (w W0 : World) (Q : Exit → Act → World → Prop) (rb ro fb n : Nat) (r : RdIn) (h24 : x 24 = .pointer (some ⟨rb, ro, none⟩)) (h26 : x 26 = .slice (some ⟨fb, 0, none⟩) n n) (h236 : x 236 = .int .i64 (n : Nat)) (h237 : x 237 = .int .i64 0) (hR : RowF w fb 3 n (fun _ => .int .i64 0)) (hn : n ≤ 8)
    (hO : RdAt W0 rb ro r) (hB : Below W0.heap.size W0 w) (hfb : W0.heap.size ≤ fb)
    (hexit : ∀ x' w', Live [(0, x 0), (1, x 1), (8, x 8), (9, x 9), (10, x 10), (11, x 11), (12, x 12), (13, x 13), (14, x 14), (15, x 15), (16, x 16), (17, x 17), (18, x 18), (22, x 22), (24, x 24), (25, x 25), (26, x 26), (157, x 157), (158, x 158), (207, x 207), (208, x 208), (236, x 236)] x' → w.grownBy w' (some fb) → RowF w' fb 3 n (fun k => .int .i64 (foInit r k)) → Q (.exit 12) ⟨frame x', []⟩ w') :
    Code.wp Yba.prog (.loop (loopAt Yba.f3 6)) Q ⟨frame x, []⟩ w := by
  refine wp_loop (fun a w' => ∃ (x' : Nat → Value), a = ⟨frame x', []⟩ ∧ ∃ (q : Nat), Live [(0, x 0), (1, x 1), (8, x 8), (9, x 9), (10, x 10), (11, x 11), (12, x 12), (13, x 13), (14, x 14), (15, x 15), (16, x 16), (17, x 17), (18, x 18), (22, x 22), (24, x 24), (25, x 25), (26, x 26), (157, x 157), (158, x 158), (207, x 207), (208, x 208), (236, x 236)] x' ∧ x' 237 = .int .i64 (q : Nat) ∧ q ≤ n ∧ w.grownBy w' (some fb) ∧ RowF w' fb 3 n (fun k => if k < q then .int .i64 (foInit r k) else .int .i64 0)) (fun a _ => n - (intOf (a.tmps.getD 237 (.bool false))).toNat) ⟨x, rfl, 0, live_cons (rfl) (live_cons (rfl) (live_cons (rfl) (live_cons (rfl) (live_cons (rfl) (live_cons (rfl) (live_cons (rfl) (live_cons (rfl) (live_cons (rfl) (live_cons (rfl) (live_cons (rfl) (live_cons (rfl) (live_cons (rfl) (live_cons (rfl) (live_cons (rfl) (live_cons (rfl) (live_cons (rfl) (live_cons (rfl) (live_cons (rfl) (live_cons (rfl) (live_cons (rfl) (live_cons (rfl) (live_nil _)))))))))))))))))))))), h237, by omega, World.grownBy.refl _ _, hR.turn _ (fun k _ => by simp)⟩ ?_
  clear hR
  rintro a w' ⟨x', rfl, q, hl, o237, hq, hg, hR⟩
  have e0 := hl.head
  have e1 := hl.tail.head
  have e8 := hl.tail.tail.head
  have e9 := hl.tail.tail.tail.head
  have e10 := hl.tail.tail.tail.tail.head
  have e11 := hl.tail.tail.tail.tail.tail.head
  have e12 := hl.tail.tail.tail.tail.tail.tail.head
  have e13 := hl.tail.tail.tail.tail.tail.tail.tail.head
  have e14 := hl.tail.tail.tail.tail.tail.tail.tail.tail.head
  have e15 := hl.tail.tail.tail.tail.tail.tail.tail.tail.tail.head
  have e16 := hl.tail.tail.tail.tail.tail.tail.tail.tail.tail.tail.head
  have e17 := hl.tail.tail.tail.tail.tail.tail.tail.tail.tail.tail.tail.head
  have e18 := hl.tail.tail.tail.tail.tail.tail.tail.tail.tail.tail.tail.tail.head
  have e22 := hl.tail.tail.tail.tail.tail.tail.tail.tail.tail.tail.tail.tail.tail.head
  have e24 := (hl.tail.tail.tail.tail.tail.tail.tail.tail.tail.tail.tail.tail.tail.tail.head).trans h24
  have e25 := hl.tail.tail.tail.tail.tail.tail.tail.tail.tail.tail.tail.tail.tail.tail.tail.head
  have e26 := (hl.tail.tail.tail.tail.tail.tail.tail.tail.tail.tail.tail.tail.tail.tail.tail.tail.head).trans h26
  have e157 := hl.tail.tail.tail.tail.tail.tail.tail.tail.tail.tail.tail.tail.tail.tail.tail.tail.tail.head
  have e158 := hl.tail.tail.tail.tail.tail.tail.tail.tail.tail.tail.tail.tail.tail.tail.tail.tail.tail.tail.head
  have e207 := hl.tail.tail.tail.tail.tail.tail.tail.tail.tail.tail.tail.tail.tail.tail.tail.tail.tail.tail.tail.head
  have e208 := hl.tail.tail.tail.tail.tail.tail.tail.tail.tail.tail.tail.tail.tail.tail.tail.tail.tail.tail.tail.tail.head
  have e236 := (hl.tail.tail.tail.tail.tail.tail.tail.tail.tail.tail.tail.tail.tail.tail.tail.tail.tail.tail.tail.tail.tail.head).trans h236
  rw [frame_lit, e0, e1, e8, e9, e10, e11, e12, e13, e14, e15, e16, e17, e18, e22, e24, e25, e26, e157, e158, e207, e208, e236, o237]
  clear e0 e1 e8 e9 e10 e11 e12 e13 e14 e15 e16 e17 e18 e22 e24 e25 e26 e157 e158 e207 e208 e236 hl o237
  conv => arg 2; whnf
  by_cases hlt : q < n
  · have hB' : Below W0.heap.size W0 w' := below_grown hB hg (fun g hg => by cases hg; exact hfb) hB.size
    have hO' := hO.below hB' (Nat.le_refl _)
    have c3 := hO'.c3
    obtain ⟨cv, cR⟩ := hR.rowB.cell q hlt
    have fR := hR.rowB.frozen q
    have i1 : (q : Int) < (n : Int) := by omega
    have hpb := hO.pb
    have ne1 : rb ≠ fb := by have h9 := lt_cell hO.c3; intro e; simp at h9; omega
    by_cases hp : q < r.pl
    · obtain ⟨pb, po, hpa, cP⟩ := hO'.ps q hp
      have ne2 : pb ≠ fb := by obtain ⟨pb', po', h1, h2⟩ := hO.ps q hp; have h9 := lt_cell h2; rw [hpa] at h1; cases h1; intro e; simp at h9; omega
      rw [hpa] at c3
      simp only at cP
      have i2 : (q : Int) < (r.pl : Int) := by omega
      have HF : Hid (foInit r q = r.pv q) := by show foInit r q = r.pv q; simp [foInit, hp]
      go_wp2
      refine ⟨end_frame rfl (fun y hy => ⟨q + 1, live_cons (hy 0) (live_cons (hy 1) (live_cons (hy 8) (live_cons (hy 9) (live_cons (hy 10) (live_cons (hy 11) (live_cons (hy 12) (live_cons (hy 13) (live_cons (hy 14) (live_cons (hy 15) (live_cons (hy 16) (live_cons (hy 17) (live_cons (hy 18) (live_cons (hy 22) (live_cons ((hy 24).trans h24.symm) (live_cons (hy 25) (live_cons ((hy 26).trans h26.symm) (live_cons (hy 157) (live_cons (hy 158) (live_cons (hy 207) (live_cons (hy 208) (live_cons ((hy 236).trans h236.symm) (live_nil _)))))))))))))))))))))), hy 237, by omega, hg.trans ((grown_setCell _ _ _ _).trans (grown_setCell _ _ _ _)), ?_⟩), ?_⟩
      · refine RowF.set (f := fun k => if k < q then .int .i64 (foInit r k) else if k = q then .int .i64 (-1) else .int .i64 0) ?_ q _ _ hlt (by simp [HF.out]) (fun j _ hj => ?_)
        · exact hR.set q _ _ hlt (by simp) (fun j _ hj => by simp [hj])
        · by_cases h1 : j < q
          · simp [h1, show j < q + 1 from by omega]
          · simp [h1, hj, show ¬ j < q + 1 from by omega]
      · show n - (intOf (.int .i64 ((q : Int) + 1))).toNat < n - (intOf (.int .i64 (q : Int))).toNat
        simp [intOf]; omega
    · have hd : decide ((q : Int) < (r.pl : Int)) = false := by simp; omega
      have hd2 : decide (q < r.pl) = false := by simp; omega
      have HF : Hid (foInit r q = -1) := by show foInit r q = -1; simp [foInit, hp]
      go_wp2
      refine ⟨end_frame rfl (fun y hy => ⟨q + 1, live_cons (hy 0) (live_cons (hy 1) (live_cons (hy 8) (live_cons (hy 9) (live_cons (hy 10) (live_cons (hy 11) (live_cons (hy 12) (live_cons (hy 13) (live_cons (hy 14) (live_cons (hy 15) (live_cons (hy 16) (live_cons (hy 17) (live_cons (hy 18) (live_cons (hy 22) (live_cons ((hy 24).trans h24.symm) (live_cons (hy 25) (live_cons ((hy 26).trans h26.symm) (live_cons (hy 157) (live_cons (hy 158) (live_cons (hy 207) (live_cons (hy 208) (live_cons ((hy 236).trans h236.symm) (live_nil _)))))))))))))))))))))), hy 237, by omega, hg.trans (grown_setCell _ _ _ _), ?_⟩), ?_⟩
      · refine hR.set q _ _ hlt (by simp [HF.out]) (fun j _ hj => ?_)
        by_cases h1 : j < q
        · simp [h1, show j < q + 1 from by omega]
        · simp [h1, show ¬ j < q + 1 from by omega]
      · show n - (intOf (.int .i64 ((q : Int) + 1))).toNat < n - (intOf (.int .i64 (q : Int))).toNat
        simp [intOf]; omega
  · have hd : decide ((q : Int) < (n : Int)) = false := by simp; omega
    have hd2 : decide (q < n) = false := by simp; omega
    obtain rfl : q = n := by omega
    go_wp2
    refine at_frame (Q := fun a w => Q _ a w) rfl (fun y hy => ?_)
    exact hexit y _ (live_cons (hy 0) (live_cons (hy 1) (live_cons (hy 8) (live_cons (hy 9) (live_cons (hy 10) (live_cons (hy 11) (live_cons (hy 12) (live_cons (hy 13) (live_cons (hy 14) (live_cons (hy 15) (live_cons (hy 16) (live_cons (hy 17) (live_cons (hy 18) (live_cons (hy 22) (live_cons ((hy 24).trans h24.symm) (live_cons (hy 25) (live_cons ((hy 26).trans h26.symm) (live_cons (hy 157) (live_cons (hy 158) (live_cons (hy 207) (live_cons (hy 208) (live_cons ((hy 236).trans h236.symm) (live_nil _))))))))))))))))))))))) hg (hR.turn _ (fun k hk => by simp [hk]))
end Go.Proofs.Ybulkeidm
