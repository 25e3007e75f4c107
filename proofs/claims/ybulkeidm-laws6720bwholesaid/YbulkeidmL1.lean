/-
  LawS6720BWhole, the outer loop of the sum.
-/
import Derived.Test.YbulkeidmL2
namespace Go.Proofs.Ybulkeidm
open Go.RowKit

set_option maxHeartbeats 2000000 in
set_option maxRecDepth 100000 in
theorem loop1 (x : Nat → Value) (w : World) (Q : Exit → Act → World → Prop) (sa : Option Addr) (N c : Nat) (d : Nat → ObIn) (v1 : Value)
    (hl : Live [(0, .slice sa N c), (1, v1), (85, .int .i64 (N : Nat))] x) (h86 : x 86 = .int .i64 0)
    (h5 : ∃ t : Int, x 5 = .int .i64 t) (hO : ObsAt w sa N d) (hN : N ≤ 4096)
    (hexit : ∀ x' w', Live [(0, .slice sa N c), (1, v1), (85, .int .i64 (N : Nat))] x' → (∃ t : Int, x' 5 = .int .i64 t) → (∃ k, w' = w.drewN k) → Q (.exit 0) ⟨frame x', []⟩ w') :
    Code.wp Yba.prog (.loop (loopAt Yba.f3 0)) Q ⟨frame x, []⟩ w := by
  obtain ⟨t, h5⟩ := h5
  refine wp_loop (fun a w' => ∃ (x' : Nat → Value), a = ⟨frame x', []⟩ ∧ ∃ (i : Nat) (t : Int), Live [(0, .slice sa N c), (1, v1), (85, .int .i64 (N : Nat))] x' ∧ x' 86 = .int .i64 (i : Nat) ∧ i ≤ N ∧ x' 5 = .int .i64 t ∧ ∃ k, w' = w.drewN k) (fun a _ => N - (intOf (a.tmps.getD 86 (.bool false))).toNat) ⟨x, rfl, 0, t, hl, h86, by omega, h5, 0, rfl⟩ ?_
  rintro a w' ⟨x', rfl, i, t', hl', h86', hi, h5', kk, rfl⟩
  have e0 := hl'.head
  have e1 := hl'.tail.head
  have e85 := hl'.tail.tail.head
  rw [frame_lit, e0, e1, e85, h86', h5']
  clear e0 e1 e85 h86' h5' hl' hl h86 h5
  conv => arg 2; whnf
  by_cases hlt : i < N
  · obtain ⟨sb, so, rfl, hOi⟩ := hO i hlt
    have c3 : (w.drewN kk).cell? ⟨sb, so + i * 4 + 3, none⟩ = some (.slice (d i).ra (d i).rl (d i).rc) := hOi.c3
    have c2 : (w.drewN kk).cell? ⟨sb, so + i * 4 + 2, none⟩ = some (.slice (d i).ua (d i).ul (d i).uc) := hOi.c2
    obtain ⟨wk, hwk⟩ : ∃ wk, wk = w.drewN kk := ⟨_, rfl⟩
    have hOk : ObAt wk sb (so + i * 4) (d i) := by rw [hwk]; exact hOi.drawn kk
    rw [← hwk] at c3 c2 ⊢
    have Hwk : Hid (wk = w.drewN kk) := hwk
    have hrb : (d i).rl ≤ 1954687338268 := hOi.rb
    have hub : (d i).ul ≤ 281474976710656 := hOi.ub
    clear hwk
    have i1 : (i : Int) < (N : Int) := by omega
    go_wp2
    go_quiet (fail)
    go_wp2
    refine wp_frame rfl (fun x1 hx => ?_)
    refine loop2 x1 _ _ sb so N c i (d i) v1 (.int .i64 (N : Nat)) (.int .i64 (i : Nat)) (live_cons (hx 0) (live_cons (hx 1) (live_cons (hx 6) (live_cons (hx 85) (live_cons (hx 86) (live_cons (hx 109) (live_nil _))))))) (hx 110) ⟨_, hx 5⟩ hlt (hOk.drawn _) ?_
    clear hx x1
    rintro x2 w2 hl2 ⟨t2, h5⟩ ⟨k2, rfl⟩
    have e0 := hl2.head
    have e1 := hl2.tail.head
    have e6 := hl2.tail.tail.head
    have e85 := hl2.tail.tail.tail.head
    have e86 := hl2.tail.tail.tail.tail.head
    have e109 := hl2.tail.tail.tail.tail.tail.head
    rw [frame_lit, e0, e1, e6, e85, e86, e109, h5]
    clear e0 e1 e6 e85 e86 e109 h5 hl2
    go_wp2
    refine ⟨end_frame rfl (fun y hy => ⟨i + 1, _, live_cons (hy 0) (live_cons (hy 1) (live_cons (hy 85) (live_nil _))), hy 86, by omega, hy 5, ?_⟩), ?_⟩
    · rw [Hwk.out]; exact ⟨_, World.drewN_drewN _ _ _⟩
    · show N - (intOf (.int .i64 ((i : Int) + 1))).toNat < N - (intOf (.int .i64 (i : Int))).toNat
      simp [intOf]; omega
  · have hd : decide ((i : Int) < (N : Int)) = false := by simp; omega
    have hd2 : decide (i < N) = false := by simp; omega
    go_wp2
    refine at_frame (Q := fun a w => Q _ a w) rfl (fun y hy => ?_)
    exact hexit y _ (live_cons (hy 0) (live_cons (hy 1) (live_cons (hy 85) (live_nil _)))) ⟨t', hy 5⟩ ⟨kk, rfl⟩
end Go.Proofs.Ybulkeidm
