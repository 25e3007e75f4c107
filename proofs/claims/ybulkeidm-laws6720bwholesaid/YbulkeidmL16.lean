/-
  LawS6720BWhole: the insertion of one read.
-/
import Derived.Test.YbulkeidmChk
namespace Go.Proofs.Ybulkeidm
open Go.RowKit

theorem set_shift (P S post : List Nat) (y z : Nat) : ((P ++ [y]) ++ z :: S ++ post).set (P.length + 1) y = P ++ y :: (y :: S) ++ post := by
  simp
theorem get_last (P S post : List Nat) (y z : Nat) (h : P.length < ((P ++ [y]) ++ z :: S ++ post).length) : ((P ++ [y]) ++ z :: S ++ post)[P.length] = y := by
  simp

set_option maxHeartbeats 4000000 in
set_option maxRecDepth 100000 in
theorem loop16 (x : Nat → Value) (w : World) (Q : Exit → Act → World → Prop) (xb m p k0 : Nat) (kf kl : Nat → Int) (P0 post : List Nat) (h58 : x 58 = .slice (some ⟨xb, 0, none⟩) m m) (h60 : x 60 = .pointer (some ⟨p, 0, none⟩)) (h61 : x 61 = .int .i64 (k0 : Nat))
    (hk0 : P0.length = k0) (hm : k0 + 1 + post.length = m) (hmb : m ≤ 1954687338268) (hR : PRow w xb (P0 ++ p :: [] ++ post)) (hKp : KeyG w xb p (kf p) (kl p)) (hK : ∀ d ∈ P0, KeyG w xb d (kf d) (kl d))
    (hexit : ∀ x' w' k P S z, Live [(0, x 0), (8, x 8), (9, x 9), (10, x 10), (11, x 11), (12, x 12), (13, x 13), (42, x 42), (52, x 52), (53, x 53), (55, x 55), (57, x 57), (58, x 58), (59, x 59), (60, x 60), (538, x 538), (539, x 539)] x' → x' 61 = .int .i64 (k : Nat) → w.grownBy w' (some xb) → P.length = k → P.length + S.length = k0 → PRow w' xb (P ++ z :: S ++ post) → P ++ p :: S = (insRev (ltd kf kl) p P0.reverse).reverse → Q (.exit 30) ⟨frame x', []⟩ w') :
    Code.wp Yba.prog (.loop (loopAt Yba.f3 15)) Q ⟨frame x, []⟩ w := by
  refine wp_loop (fun a w' => ∃ (x' : Nat → Value), a = ⟨frame x', []⟩ ∧ ∃ (k : Nat) (P S : List Nat) (z : Nat), Live [(0, x 0), (8, x 8), (9, x 9), (10, x 10), (11, x 11), (12, x 12), (13, x 13), (42, x 42), (52, x 52), (53, x 53), (55, x 55), (57, x 57), (58, x 58), (59, x 59), (60, x 60), (538, x 538), (539, x 539)] x' ∧ x' 61 = .int .i64 (k : Nat) ∧ w.grownBy w' (some xb) ∧ P.length = k ∧ P.length + S.length = k0 ∧ (∀ d ∈ P, d ∈ P0) ∧ PRow w' xb (P ++ z :: S ++ post) ∧ (insRev (ltd kf kl) p P.reverse).reverse ++ S = (insRev (ltd kf kl) p P0.reverse).reverse) (fun a _ => (intOf (a.tmps.getD 61 (.bool false))).toNat) ⟨x, rfl, k0, P0, [], p, live_cons (rfl) (live_cons (rfl) (live_cons (rfl) (live_cons (rfl) (live_cons (rfl) (live_cons (rfl) (live_cons (rfl) (live_cons (rfl) (live_cons (rfl) (live_cons (rfl) (live_cons (rfl) (live_cons (rfl) (live_cons (rfl) (live_cons (rfl) (live_cons (rfl) (live_cons (rfl) (live_cons (rfl) (live_nil _))))))))))))))))), h61, World.grownBy.refl _ _, hk0, by simp [hk0], fun d hd => hd, hR, by simp⟩ ?_
  clear hR
  rintro a w' ⟨x', rfl, k, P, S, z, hl, o61, hg, hPk, hPS, hPm, hR, hins⟩
  have e0 := hl.head
  have e8 := hl.tail.head
  have e9 := hl.tail.tail.head
  have e10 := hl.tail.tail.tail.head
  have e11 := hl.tail.tail.tail.tail.head
  have e12 := hl.tail.tail.tail.tail.tail.head
  have e13 := hl.tail.tail.tail.tail.tail.tail.head
  have e42 := hl.tail.tail.tail.tail.tail.tail.tail.head
  have e52 := hl.tail.tail.tail.tail.tail.tail.tail.tail.head
  have e53 := hl.tail.tail.tail.tail.tail.tail.tail.tail.tail.head
  have e55 := hl.tail.tail.tail.tail.tail.tail.tail.tail.tail.tail.head
  have e57 := hl.tail.tail.tail.tail.tail.tail.tail.tail.tail.tail.tail.head
  have e58 := (hl.tail.tail.tail.tail.tail.tail.tail.tail.tail.tail.tail.tail.head).trans h58
  have e59 := hl.tail.tail.tail.tail.tail.tail.tail.tail.tail.tail.tail.tail.tail.head
  have e60 := (hl.tail.tail.tail.tail.tail.tail.tail.tail.tail.tail.tail.tail.tail.tail.head).trans h60
  have e538 := hl.tail.tail.tail.tail.tail.tail.tail.tail.tail.tail.tail.tail.tail.tail.tail.head
  have e539 := hl.tail.tail.tail.tail.tail.tail.tail.tail.tail.tail.tail.tail.tail.tail.tail.tail.head
  rw [frame_lit, e0, e8, e9, e10, e11, e12, e13, e42, e52, e53, e55, e57, e58, e59, e60, e538, e539, o61]
  clear e0 e8 e9 e10 e11 e12 e13 e42 e52 e53 e55 e57 e58 e59 e60 e538 e539 hl o61
  conv => arg 2; whnf
  have H58 : Hid (x 58 = .slice (some ⟨xb, 0, none⟩) m m) := h58
  have H60 : Hid (x 60 = .pointer (some ⟨p, 0, none⟩)) := h60
  clear h58 h60
  rcases List.eq_nil_or_concat P with rfl | ⟨P', y, rfl⟩
  · obtain rfl : k = 0 := by simpa using hPk.symm
    go_wp2
    refine at_frame (Q := fun a w => Q _ a w) rfl (fun y hy => ?_)
    exact hexit y _ 0 [] S z (live_cons (hy 0) (live_cons (hy 8) (live_cons (hy 9) (live_cons (hy 10) (live_cons (hy 11) (live_cons (hy 12) (live_cons (hy 13) (live_cons (hy 42) (live_cons (hy 52) (live_cons (hy 53) (live_cons (hy 55) (live_cons (hy 57) (live_cons ((hy 58).trans H58.out.symm) (live_cons (hy 59) (live_cons ((hy 60).trans H60.out.symm) (live_cons (hy 538) (live_cons (hy 539) (live_nil _)))))))))))))))))) (hy 61) hg rfl hPS hR (by simpa [insRev] using hins)
  · rw [List.concat_eq_append] at hPk hPS hPm hR hins
    obtain rfl : k = P'.length + 1 := by rw [← hPk]; simp
    rw [show ((P'.length + 1 : Nat) : Int) = (P'.length : Int) + 1 from by omega]
    have hlen : ((P' ++ [y]) ++ z :: S ++ post).length = m := by simp at hPS ⊢; omega
    have cy : w'.cell? ⟨xb, P'.length, none⟩ = some (ptr y) := by
      have h1 := hR.cell P'.length (by rw [hlen]; simp at hPS; omega)
      rw [get_last] at h1
      exact h1
    obtain ⟨zv, cz⟩ : ∃ zv, w'.cell? ⟨xb, P'.length + 1, none⟩ = some zv := ⟨_, hR.cell (P'.length + 1) (by rw [hlen]; simp at hPS; omega)⟩
    have HL := less_any p y _ _ _ _ w' (hKp.grown hg).key ((hK y (hPm y (by simp))).grown hg).key
    have hqm : P'.length + 1 < m := by simp at hPS; omega
    have hPS' : P'.length + 1 + S.length = k0 := by simpa using hPS
    have HP : Hid (∀ d ∈ P', d ∈ P0) := fun d hd => hPm d (by simp [hd])
    have HI : Hid ((insRev (ltd kf kl) p (P' ++ [y]).reverse).reverse ++ S = (insRev (ltd kf kl) p P0.reverse).reverse) := hins
    have HL5 : Hid (((P' ++ [y]) ++ z :: S ++ post).length = m) := hlen
    clear hPk hPS hPm hins hlen
    obtain ⟨q, hq⟩ : ∃ q, q = P'.length := ⟨_, rfl⟩
    have Hq : Hid (q = P'.length) := hq
    rw [← hq] at cy cz hqm hPS' ⊢
    clear hq
    have i1 : (0 : Int) < (q : Int) + 1 := by omega
    have i2 : (q : Int) < (m : Int) := by omega
    have i3 : (q : Int) + 1 < (m : Int) := by omega
    cases hlt : ltd kf kl p y with
    | true =>
      rw [show lessEv (kf p) (kl p) (kf y) (kl y) = true from hlt] at HL
      have HN : Hid ((insRev (ltd kf kl) p P'.reverse).reverse ++ (y :: S) = (insRev (ltd kf kl) p P0.reverse).reverse) := by
        show _ = _
        rw [← HI.out, List.reverse_append]
        simp [insRev, hlt]
      go_wp2_with (go_at_call 6; refine HL.mono ?_; rintro e w1 ⟨rfl, hw1⟩; have hg1 : w'.grownBy w1 none := (by obtain ⟨_, rfl⟩ := hw1; exact grown_drewN _ _ _); have hR1 := hR.block (hg1.block xb hR.lt (by simp)); have cy1 := hg1.cell cy (by simp); have cz1 := hg1.cell cz (by simp); have fz1 := hR1.frozen (q + 1); clear hw1 cy cz HL)
      refine ⟨end_frame rfl (fun v hy => ⟨q, P', y :: S, y, live_cons (hy 0) (live_cons (hy 8) (live_cons (hy 9) (live_cons (hy 10) (live_cons (hy 11) (live_cons (hy 12) (live_cons (hy 13) (live_cons (hy 42) (live_cons (hy 52) (live_cons (hy 53) (live_cons (hy 55) (live_cons (hy 57) (live_cons ((hy 58).trans H58.out.symm) (live_cons (hy 59) (live_cons ((hy 60).trans H60.out.symm) (live_cons (hy 538) (live_cons (hy 539) (live_nil _))))))))))))))))), (hy 61).trans (by go_num), (hg.trans (grown_then (World.grownBy.refl w' (some xb)) hg1 (fun _ e => by cases e))).trans (grown_setCell _ _ _ _), Hq.out.symm, by simp; have := Hq.out; omega, HP.out, ?_, HN.out⟩), ?_⟩
      · have h1 := hR1.set (q + 1) y (by rw [HL5.out]; omega)
        rw [Hq.out, set_shift] at h1
        rw [Hq.out]
        exact h1
      · show (intOf (.int .i64 (q : Int))).toNat < (intOf (.int .i64 ((q : Int) + 1))).toNat
        simp [intOf]
    | false =>
      rw [show lessEv (kf p) (kl p) (kf y) (kl y) = false from hlt] at HL
      have HN : Hid ((P' ++ [y]) ++ p :: S = (insRev (ltd kf kl) p P0.reverse).reverse) := by
        show _ = _
        rw [← HI.out, List.reverse_append]
        simp [insRev, hlt]
      go_wp2_with (go_at_call 6; refine HL.mono ?_; rintro e w1 ⟨rfl, hw1⟩; have hg1 : w'.grownBy w1 none := (by obtain ⟨_, rfl⟩ := hw1; exact grown_drewN _ _ _); have hR1 := hR.block (hg1.block xb hR.lt (by simp)); clear hw1 cy cz HL)
      refine at_frame (Q := fun a w => Q _ a w) rfl (fun v hy => ?_)
      exact hexit v _ (q + 1) (P' ++ [y]) S z (live_cons (hy 0) (live_cons (hy 8) (live_cons (hy 9) (live_cons (hy 10) (live_cons (hy 11) (live_cons (hy 12) (live_cons (hy 13) (live_cons (hy 42) (live_cons (hy 52) (live_cons (hy 53) (live_cons (hy 55) (live_cons (hy 57) (live_cons ((hy 58).trans H58.out.symm) (live_cons (hy 59) (live_cons ((hy 60).trans H60.out.symm) (live_cons (hy 538) (live_cons (hy 539) (live_nil _)))))))))))))))))) ((hy 61).trans (by go_num)) (hg.trans (grown_then (World.grownBy.refl w' (some xb)) hg1 (fun _ e => by cases e))) (by simp; exact Hq.out.symm) (by simp; have := Hq.out; omega) hR1 HN.out
end Go.Proofs.Ybulkeidm
