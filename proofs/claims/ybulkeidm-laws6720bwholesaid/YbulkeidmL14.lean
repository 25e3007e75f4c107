/-
  LawS6720BWhole: the lengths of the updates.
-/
import Derived.Test.YbulkeidmChk
namespace Go.Proofs.Ybulkeidm
open Go.RowKit

theorem below_of_grown {w w' : World} (h : w.grownBy w' none) : Below w.heap.size w w' := ⟨h.os, h.tape, h.output, h.size, fun k hk => h.block k hk (by simp)⟩
theorem InRow.heap {w w' : World} {ao : Option Addr} {n : Nat} {f : Nat → Value} (h : InRow w ao n f) (e : w'.heap = w.heap) : InRow w' ao n f := fun k hk => by
  obtain ⟨b, o, h1, h2⟩ := h k hk
  have e2 : w'.heap[b]? = w.heap[b]? := by rw [e]
  exact ⟨b, o, h1, by rw [World.cell?_of_block (a := ⟨b, o + k, none⟩) e2]; exact h2⟩
theorem RdAt.heap {w w' : World} {b o : Nat} {r : RdIn} (h : RdAt w b o r) (e : w'.heap = w.heap) : RdAt w' b o r :=
  have hc : ∀ {a : Addr} {v : Value}, w.cell? a = some v → w'.cell? a = some v := fun {a} {v} h2 => by
    have e2 : w'.heap[a.block]? = w.heap[a.block]? := by rw [e]
    rw [World.cell?_of_block (a := a) e2]; exact h2
  ⟨hc h.c0, hc h.c1, hc h.c2, hc h.c3, hc h.c4, h.ps.heap e, h.qs.heap e, h.q0, h.pb, h.qb⟩
theorem ObAt.heap {w w' : World} {b o : Nat} {d : ObIn} (h : ObAt w b o d) (e : w'.heap = w.heap) : ObAt w' b o d :=
  have hc : ∀ {a : Addr} {v : Value}, w.cell? a = some v → w'.cell? a = some v := fun {a} {v} h2 => by
    have e2 : w'.heap[a.block]? = w.heap[a.block]? := by rw [e]
    rw [World.cell?_of_block (a := a) e2]; exact h2
  ⟨hc h.c0, hc h.c1, hc h.c2, hc h.c3, h.n0, h.us.heap e, h.u0, fun j hj => by
    obtain ⟨b', o', h1, h2⟩ := h.rs j hj
    exact ⟨b', o', h1, h2.heap e⟩, h.ub, h.rb⟩

set_option maxHeartbeats 4000000 in
set_option maxRecDepth 100000 in
theorem loop14 (x : Nat → Value) (w : World) (Q : Exit → Act → World → Prop) (sb so oo pu n : Nat) (d : ObIn) (h53 : x 53 = .pointer (some ⟨sb, so, none⟩)) (h54 : x 54 = .int .i64 (n : Nat)) (h55 : x 55 = .pointer (some ⟨oo, 0, none⟩)) (h56 : x 56 = .int .i64 0)
    (hn : n ≤ 8) (hO : ObAt w sb so d) (c1 : w.cell? ⟨oo, 1, none⟩ = some (.slice (some ⟨pu, 0, none⟩) n n)) (hu : ∀ q, q < n → ∃ A C, w.cell? ⟨pu, q, none⟩ = some (.slice A (updLen d q) C))
    (hexit : ∀ x' w', Live [(0, x 0), (8, x 8), (9, x 9), (10, x 10), (11, x 11), (12, x 12), (13, x 13), (42, x 42), (52, x 52), (53, x 53), (54, x 54), (55, x 55), (538, x 538), (539, x 539)] x' → w.grownBy w' none → Q (.exit 26) ⟨frame x', []⟩ w') :
    Code.wp Yba.prog (.loop (loopAt Yba.f3 13)) Q ⟨frame x, []⟩ w := by
  refine wp_loop (fun a w' => ∃ (x' : Nat → Value), a = ⟨frame x', []⟩ ∧ ∃ (j : Nat), Live [(0, x 0), (8, x 8), (9, x 9), (10, x 10), (11, x 11), (12, x 12), (13, x 13), (42, x 42), (52, x 52), (53, x 53), (54, x 54), (55, x 55), (538, x 538), (539, x 539)] x' ∧ x' 56 = .int .i64 (j : Nat) ∧ j ≤ n ∧ w.grownBy w' none) (fun a _ => n - (intOf (a.tmps.getD 56 (.bool false))).toNat) ⟨x, rfl, 0, live_cons (rfl) (live_cons (rfl) (live_cons (rfl) (live_cons (rfl) (live_cons (rfl) (live_cons (rfl) (live_cons (rfl) (live_cons (rfl) (live_cons (rfl) (live_cons (rfl) (live_cons (rfl) (live_cons (rfl) (live_cons (rfl) (live_cons (rfl) (live_nil _)))))))))))))), h56, by omega, World.grownBy.refl _ _⟩ ?_
  rintro a w' ⟨x', rfl, j, hl, o56, hj, hg⟩
  have e0 := hl.head
  have e8 := hl.tail.head
  have e9 := hl.tail.tail.head
  have e10 := hl.tail.tail.tail.head
  have e11 := hl.tail.tail.tail.tail.head
  have e12 := hl.tail.tail.tail.tail.tail.head
  have e13 := hl.tail.tail.tail.tail.tail.tail.head
  have e42 := hl.tail.tail.tail.tail.tail.tail.tail.head
  have e52 := hl.tail.tail.tail.tail.tail.tail.tail.tail.head
  have e53 := (hl.tail.tail.tail.tail.tail.tail.tail.tail.tail.head).trans h53
  have e54 := (hl.tail.tail.tail.tail.tail.tail.tail.tail.tail.tail.head).trans h54
  have e55 := (hl.tail.tail.tail.tail.tail.tail.tail.tail.tail.tail.tail.head).trans h55
  have e538 := hl.tail.tail.tail.tail.tail.tail.tail.tail.tail.tail.tail.tail.head
  have e539 := hl.tail.tail.tail.tail.tail.tail.tail.tail.tail.tail.tail.tail.tail.head
  rw [frame_lit, e0, e8, e9, e10, e11, e12, e13, e42, e52, e53, e54, e55, e538, e539, o56]
  clear e0 e8 e9 e10 e11 e12 e13 e42 e52 e53 e54 e55 e538 e539 hl o56
  conv => arg 2; whnf
  have H53 : Hid (x 53 = .pointer (some ⟨sb, so, none⟩)) := h53
  have H54 : Hid (x 54 = .int .i64 (n : Nat)) := h54
  have H55 : Hid (x 55 = .pointer (some ⟨oo, 0, none⟩)) := h55
  clear h53 h54 h55
  by_cases hlt : j < n
  · have i1 : (j : Int) < (n : Int) := by omega
    have hO' := hO.below (below_of_grown hg) (Nat.le_refl _)
    have c1' := hg.cell c1 (by simp)
    obtain ⟨A, C, cq⟩ := hu j hlt
    have cq' := hg.cell cq (by simp)
    have HU : ∀ w2, w2.heap = w'.heap → Calls Yba.prog 4 #[.pointer (some ⟨sb, so, none⟩), .int .i64 (j : Nat)] w2 fun e w3 => e = .returned (.int .i64 (updLen d j : Nat)) ∧ w2 = w3 := fun w2 e => updlen_any sb so j d w2 (hO'.heap e)
    have h5 := updLen_le d j
    obtain ⟨m, hm⟩ : ∃ m, m = updLen d j := ⟨_, rfl⟩
    rw [← hm] at cq' HU h5
    clear hm hO' cq
    go_wp2
    go_region_held3 (fun w2 => w2.cell? ⟨oo, 1, none⟩ = some (.slice (some ⟨pu, 0, none⟩) n n) ∧ w2.cell? ⟨pu, j, none⟩ = some (.slice A m C)) (first | go_keep | (exact ⟨c1', cq'⟩))
      ((go_at_call 4; refine (HU _ ?_).mono ?_; rfl; rintro e w3 ⟨rfl, rfl⟩))
    go_wp2
    refine ⟨end_frame rfl (fun y hy => ⟨j + 1, live_cons (hy 0) (live_cons (hy 8) (live_cons (hy 9) (live_cons (hy 10) (live_cons (hy 11) (live_cons (hy 12) (live_cons (hy 13) (live_cons (hy 42) (live_cons (hy 52) (live_cons ((hy 53).trans H53.out.symm) (live_cons ((hy 54).trans H54.out.symm) (live_cons ((hy 55).trans H55.out.symm) (live_cons (hy 538) (live_cons (hy 539) (live_nil _)))))))))))))), hy 56, by omega, hg.trans (grown_drew _ none)⟩), ?_⟩
    show n - (intOf (.int .i64 ((j : Int) + 1))).toNat < n - (intOf (.int .i64 (j : Int))).toNat
    simp [intOf]; omega
  · have hd : decide ((j : Int) < (n : Int)) = false := by simp; omega
    have hd2 : decide (j < n) = false := by simp; omega
    obtain rfl : j = n := by omega
    go_wp2
    refine at_frame (Q := fun a w => Q _ a w) rfl (fun y hy => ?_)
    exact hexit y _ (live_cons (hy 0) (live_cons (hy 8) (live_cons (hy 9) (live_cons (hy 10) (live_cons (hy 11) (live_cons (hy 12) (live_cons (hy 13) (live_cons (hy 42) (live_cons (hy 52) (live_cons ((hy 53).trans H53.out.symm) (live_cons ((hy 54).trans H54.out.symm) (live_cons ((hy 55).trans H55.out.symm) (live_cons (hy 538) (live_cons (hy 539) (live_nil _))))))))))))))) hg
end Go.Proofs.Ybulkeidm
