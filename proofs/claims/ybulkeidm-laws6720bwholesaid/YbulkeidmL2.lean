/-
  LawS6720BWhole, the first two loops: the sum of the lengths.
-/
import Derived.Test.YbulkeidmFrame
namespace Go.Proofs.Ybulkeidm
open Go.RowKit

/-- Slots that stay as they are. -/
def Live (L : List (Nat × Value)) (x : Nat → Value) : Prop := ∀ p ∈ L, x p.1 = p.2

theorem live_nil (x : Nat → Value) : Live [] x := fun _ h => by cases h
theorem live_cons {x : Nat → Value} {n : Nat} {v : Value} {L : List (Nat × Value)} (h : x n = v) (hl : Live L x) : Live ((n, v) :: L) x := fun p hp => by
  rcases List.mem_cons.1 hp with rfl | hp
  · exact h
  · exact hl p hp
theorem Live.head {x : Nat → Value} {n : Nat} {v : Value} {L : List (Nat × Value)} (h : Live ((n, v) :: L) x) : x n = v := h (n, v) (List.mem_cons_self ..)
theorem Live.tail {x : Nat → Value} {p : Nat × Value} {L : List (Nat × Value)} (h : Live (p :: L) x) : Live L x := fun q hq => h q (List.mem_cons_of_mem _ hq)

theorem wp_frame {c : Code} {Q : Exit → Act → World → Prop} {F : Array Value} {w : World} (hs : F.size = 826) (h : ∀ x, (∀ n, x n = F.getD n (.bool false)) → Code.wp Yba.prog c Q ⟨frame x, []⟩ w) : Code.wp Yba.prog c Q ⟨F, []⟩ w := by
  have := h (fun n => F.getD n (.bool false)) (fun _ => rfl)
  rw [← frame_eta F hs] at this
  exact this
theorem at_frame {Q : Act → World → Prop} {F : Array Value} {w : World} (hs : F.size = 826) (h : ∀ x, (∀ n, x n = F.getD n (.bool false)) → Q ⟨frame x, []⟩ w) : Q ⟨F, []⟩ w := by
  have := h (fun n => F.getD n (.bool false)) (fun _ => rfl)
  rw [← frame_eta F hs] at this
  exact this
theorem end_frame {R : (Nat → Value) → Prop} {F : Array Value} (hs : F.size = 826) (h : ∀ x, (∀ n, x n = F.getD n (.bool false)) → R x) : ∃ x, (⟨F, []⟩ : Act) = ⟨frame x, []⟩ ∧ R x :=
  ⟨fun n => F.getD n (.bool false), by rw [← frame_eta F hs], h _ fun _ => rfl⟩

set_option maxHeartbeats 2000000 in
set_option maxRecDepth 100000 in
theorem loop2 (x : Nat → Value) (w : World) (Q : Exit → Act → World → Prop) (sb so N c i : Nat) (d : ObIn) (v1 v85 v86 : Value)
    (hl : Live [(0, .slice (some ⟨sb, so, none⟩) N c), (1, v1), (6, .int .i64 (i : Nat)), (85, v85), (86, v86), (109, .int .i64 (d.rl : Nat))] x) (h110 : x 110 = .int .i64 0)
    (h5 : ∃ t : Int, x 5 = .int .i64 t) (hi : i < N) (hO : ObAt w sb (so + i * 4) d)
    (hexit : ∀ x' w', Live [(0, .slice (some ⟨sb, so, none⟩) N c), (1, v1), (6, .int .i64 (i : Nat)), (85, v85), (86, v86), (109, .int .i64 (d.rl : Nat))] x' → (∃ t : Int, x' 5 = .int .i64 t) → (∃ k, w' = w.drewN k) → Q (.exit 2) ⟨frame x', []⟩ w') :
    Code.wp Yba.prog (.loop (loopAt Yba.f3 1)) Q ⟨frame x, []⟩ w := by
  obtain ⟨t, h5⟩ := h5
  refine wp_loop (fun a w' => ∃ (x' : Nat → Value), a = ⟨frame x', []⟩ ∧ ∃ (j : Nat) (t : Int), Live [(0, .slice (some ⟨sb, so, none⟩) N c), (1, v1), (6, .int .i64 (i : Nat)), (85, v85), (86, v86), (109, .int .i64 (d.rl : Nat))] x' ∧ x' 110 = .int .i64 (j : Nat) ∧ j ≤ d.rl ∧ x' 5 = .int .i64 t ∧ ∃ k, w' = w.drewN k) (fun a _ => d.rl - (intOf (a.tmps.getD 110 (.bool false))).toNat) ⟨x, rfl, 0, t, hl, h110, by omega, h5, 0, rfl⟩ ?_
  rintro a w' ⟨x', rfl, j, t', hl', h110', hj, h5', kk, rfl⟩
  have e0 := hl'.head
  have e1 := hl'.tail.head
  have e6 := hl'.tail.tail.head
  have e85 := hl'.tail.tail.tail.head
  have e86 := hl'.tail.tail.tail.tail.head
  have e109 := hl'.tail.tail.tail.tail.tail.head
  rw [frame_lit, e0, e1, e6, e85, e86, e109, h110', h5']
  clear e0 e1 e6 e85 e86 e109 h110' h5' hl' hl h110 h5
  conv => arg 2; whnf
  by_cases hlt : j < d.rl
  · obtain ⟨rb, ro, hra, hR⟩ := hO.rs j hlt
    have c3 : (w.drewN kk).cell? ⟨sb, so + i * 4 + 3, none⟩ = some (.slice (some ⟨rb, ro, none⟩) d.rl d.rc) := by rw [← hra]; exact hO.c3
    have p3 : (w.drewN kk).cell? ⟨rb, ro + j * 5 + 3, none⟩ = some (.slice (d.rd j).pa (d.rd j).pl (d.rd j).pc) := hR.c3
    have p4 : (w.drewN kk).cell? ⟨rb, ro + j * 5 + 4, none⟩ = some (.slice (d.rd j).qa (d.rd j).ql (d.rd j).qc) := hR.c4
    obtain ⟨wk, hwk⟩ : ∃ wk, wk = w.drewN kk := ⟨_, rfl⟩
    rw [← hwk] at c3 p3 p4 ⊢
    have Hwk : Hid (wk = w.drewN kk) := hwk
    have hrb : d.rl ≤ 1954687338268 := hO.rb
    clear hwk
    have i1 : (i : Int) < (N : Int) := by omega
    have i2 : (j : Int) < (d.rl : Int) := by omega
    go_wp2
    go_quiet (fail)
    go_wp2
    refine ⟨end_frame rfl (fun y hy => ⟨j + 1, _, live_cons (hy 0) (live_cons (hy 1) (live_cons (hy 6) (live_cons (hy 85) (live_cons (hy 86) (live_cons (hy 109) (live_nil _)))))), hy 110, by omega, hy 5, ?_⟩), ?_⟩
    · rw [Hwk.out]; exact ⟨_, World.drewN_drewN _ _ _⟩
    · show d.rl - (intOf (.int .i64 ((j : Int) + 1))).toNat < d.rl - (intOf (.int .i64 (j : Int))).toNat
      simp [intOf]; omega
  · have hd : decide ((j : Int) < (d.rl : Int)) = false := by simp; omega
    have hd2 : decide (j < d.rl) = false := by simp; omega
    go_wp2
    refine at_frame (Q := fun a w => Q _ a w) rfl (fun y hy => ?_)
    refine hexit y _ ?_ ⟨t', hy 5⟩ ⟨kk, rfl⟩
    exact live_cons (hy 0) (live_cons (hy 1) (live_cons (hy 6) (live_cons (hy 85) (live_cons (hy 86) (live_cons (hy 109) (live_nil _))))))
end Go.Proofs.Ybulkeidm
