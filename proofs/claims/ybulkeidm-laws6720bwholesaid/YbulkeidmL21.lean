/-
  LawS6720BWhole: one bucket of pairs.
-/
import Derived.Test.YbulkeidmPlc
namespace Go.Proofs.Ybulkeidm
open Go.RowKit

set_option maxHeartbeats 4000000 in
set_option maxRecDepth 100000 in
theorem loop21 (x : Nat → Value) (w w0 : World) (Q : Exit → Act → World → Prop) (q m mc : Nat) (ao : Option Addr) (v acc : List (Int × Int)) (h71 : x 71 = .int .i64 (q : Nat)) (h749 : x 749 = .slice ao m mc) (h750 : x 750 = .int .i64 (m : Nat)) (h751 : x 751 = .int .i64 0)
    (hv : v.length = m) (hm : m ≤ 8) (hacc : acc.length ≤ 64) (hP : PrAt w0 ao v) (hg0 : w0.grownBy w none) (hown : w.ownsRow w0.heap.size 62 2 (x 70) acc.length (acc.flatMap encP))
    (hexit : ∀ x' w', Live [(0, x 0), (8, x 8), (9, x 9), (10, x 10), (11, x 11), (12, x 12), (13, x 13), (42, x 42), (52, x 52), (53, x 53), (63, x 63), (64, x 64), (69, x 69), (71, x 71), (538, x 538), (539, x 539), (676, x 676), (677, x 677), (678, x 678), (749, x 749), (750, x 750)] x' → w0.grownBy w' none → w'.ownsRow w0.heap.size 62 2 (x' 70) (acc ++ v.filter fun p => p.1 == (q : Int)).length ((acc ++ v.filter fun p => p.1 == (q : Int)).flatMap encP) → Q (.exit 40) ⟨frame x', []⟩ w') :
    Code.wp Yba.prog (.loop (loopAt Yba.f3 20)) Q ⟨frame x, []⟩ w := by
  refine wp_loop (fun a w' => ∃ (x' : Nat → Value), a = ⟨frame x', []⟩ ∧ ∃ (k : Nat), Live [(0, x 0), (8, x 8), (9, x 9), (10, x 10), (11, x 11), (12, x 12), (13, x 13), (42, x 42), (52, x 52), (53, x 53), (63, x 63), (64, x 64), (69, x 69), (71, x 71), (538, x 538), (539, x 539), (676, x 676), (677, x 677), (678, x 678), (749, x 749), (750, x 750)] x' ∧ x' 751 = .int .i64 (k : Nat) ∧ k ≤ m ∧ w0.grownBy w' none ∧ w'.ownsRow w0.heap.size 62 2 (x' 70) (acc ++ (v.take k).filter fun p => p.1 == (q : Int)).length ((acc ++ (v.take k).filter fun p => p.1 == (q : Int)).flatMap encP)) (fun a _ => m - (intOf (a.tmps.getD 751 (.bool false))).toNat) ⟨x, rfl, 0, live_cons (rfl) (live_cons (rfl) (live_cons (rfl) (live_cons (rfl) (live_cons (rfl) (live_cons (rfl) (live_cons (rfl) (live_cons (rfl) (live_cons (rfl) (live_cons (rfl) (live_cons (rfl) (live_cons (rfl) (live_cons (rfl) (live_cons (rfl) (live_cons (rfl) (live_cons (rfl) (live_cons (rfl) (live_cons (rfl) (live_cons (rfl) (live_cons (rfl) (live_cons (rfl) (live_nil _))))))))))))))))))))), h751, by omega, hg0, by simpa using hown⟩ ?_
  clear hown hg0
  rintro a w' ⟨x', rfl, k, hl, o751, hk, hg, hown⟩
  obtain ⟨fv, o70⟩ : ∃ fv, x' 70 = fv := ⟨_, rfl⟩
  rw [o70] at hown
  have e0 := hl.head
  have e8 := hl.tail.head
  have e9 := hl.tail.tail.head
  have e10 := hl.tail.tail.tail.head
  have e11 := hl.tail.tail.tail.tail.head
  have e12 := hl.tail.tail.tail.tail.tail.head
  have e13 := hl.tail.tail.tail.tail.tail.tail.head
  have e42 := hl.tail.tail.tail.tail.tail.tail.tail.head
  have e52 := hl.tail.tail.tail.tail.tail.tail.tail.tail.head
  have e53 := hl.tail.tail.tail.tail.tail.tail.tail.tail.tail.head
  have e63 := hl.tail.tail.tail.tail.tail.tail.tail.tail.tail.tail.head
  have e64 := hl.tail.tail.tail.tail.tail.tail.tail.tail.tail.tail.tail.head
  have e69 := hl.tail.tail.tail.tail.tail.tail.tail.tail.tail.tail.tail.tail.head
  have e71 := (hl.tail.tail.tail.tail.tail.tail.tail.tail.tail.tail.tail.tail.tail.head).trans h71
  have e538 := hl.tail.tail.tail.tail.tail.tail.tail.tail.tail.tail.tail.tail.tail.tail.head
  have e539 := hl.tail.tail.tail.tail.tail.tail.tail.tail.tail.tail.tail.tail.tail.tail.tail.head
  have e676 := hl.tail.tail.tail.tail.tail.tail.tail.tail.tail.tail.tail.tail.tail.tail.tail.tail.head
  have e677 := hl.tail.tail.tail.tail.tail.tail.tail.tail.tail.tail.tail.tail.tail.tail.tail.tail.tail.head
  have e678 := hl.tail.tail.tail.tail.tail.tail.tail.tail.tail.tail.tail.tail.tail.tail.tail.tail.tail.tail.head
  have e749 := (hl.tail.tail.tail.tail.tail.tail.tail.tail.tail.tail.tail.tail.tail.tail.tail.tail.tail.tail.tail.head).trans h749
  have e750 := (hl.tail.tail.tail.tail.tail.tail.tail.tail.tail.tail.tail.tail.tail.tail.tail.tail.tail.tail.tail.tail.head).trans h750
  rw [frame_lit, e0, e8, e9, e10, e11, e12, e13, e42, e52, e53, e63, e64, e69, e71, e538, e539, e676, e677, e678, e749, e750, o751, o70]
  clear e0 e8 e9 e10 e11 e12 e13 e42 e52 e53 e63 e64 e69 e71 e538 e539 e676 e677 e678 e749 e750 hl o751 o70
  conv => arg 2; whnf
  have H71 : Hid (x 71 = .int .i64 (q : Nat)) := h71
  have H749 : Hid (x 749 = .slice ao m mc) := h749
  have H750 : Hid (x 750 = .int .i64 (m : Nat)) := h750
  clear h71 h749 h750
  by_cases hlt : k < m
  · have i1 : (k : Int) < (m : Int) := by omega
    obtain ⟨cb, rfl, c1, c2⟩ := (hP.grown hg) k (by omega)
    have htk : v.take (k + 1) = v.take k ++ [v[k]'(by omega)] := List.take_succ_eq_append_getElem (by omega)
    obtain ⟨r, hr⟩ : ∃ r, r = v[k]'(by omega) := ⟨_, rfl⟩
    rw [← hr] at c1 c2 htk
    clear hr
    obtain ⟨A, hA⟩ : ∃ A, A = (acc ++ (v.take k).filter fun p => p.1 == (q : Int)) := ⟨_, rfl⟩
    have hAl : A.length ≤ 80 := by
      have h1 : ((v.take k).filter fun p => p.1 == (q : Int)).length ≤ (v.take k).length := List.length_filter_le _ _
      have h2 : (v.take k).length ≤ v.length := by rw [List.length_take]; omega
      rw [hA, List.length_append]; omega
    have hA2 : (acc ++ (v.take (k + 1)).filter fun p => p.1 == (q : Int)) = A ++ (if r.1 = (q : Int) then [r] else []) := by
      rw [htk, List.filter_append, hA, List.append_assoc]
      congr 2
      by_cases e : r.1 = (q : Int) <;> simp [e]
    have HA2 : Hid ((acc ++ (v.take (k + 1)).filter fun p => p.1 == (q : Int)) = A ++ (if r.1 = (q : Int) then [r] else [])) := hA2
    rw [← hA] at hown
    clear hA hA2 htk
    obtain ⟨r1, r2⟩ := r
    simp only at c1 c2 HA2
    by_cases he : r1 = (q : Int)
    · have HA3 : Hid ((acc ++ (v.take (k + 1)).filter fun p => p.1 == (q : Int)) = A ++ [(r1, r2)]) := by show _ = _; rw [HA2.out, if_pos he]
      clear HA2
      subst he
      go_upto_region 193 with fail
      obtain ⟨wU, hwU⟩ : ∃ wU, wU = w'.alloc (.cells #[.int .i64 (q : Int), .int .i64 r2] 62) := ⟨_, rfl⟩
      have hgU : w'.grownBy wU none := by rw [hwU]; exact World.grownBy_alloc _ _ _
      have hbU : wU.heap[w'.heap.size]? = some (.cells #[.int .i64 (q : Int), .int .i64 r2] 62 (0, 0)) := by rw [hwU]; exact alloc_last _ _
      have hownU : wU.ownsRow w0.heap.size 62 2 fv A.length (A.flatMap encP) := by rw [hwU]; exact hown.alloc _
      rw [← hwU]
      clear hwU c1 c2
      have u0 := cellOf hbU 0 _ rfl
      have u1 := cellOf hbU 1 _ rfl
      obtain ⟨ub, hub⟩ : ∃ ub, ub = w'.heap.size := ⟨_, rfl⟩
      rw [← hub] at u0 u1 ⊢
      clear hub hbU
      obtain ⟨n, hn⟩ : ∃ n, n = A.length := ⟨_, rfl⟩
      have Hn : Hid (n = A.length) := hn
      rw [← hn] at hownU hAl
      clear hn
      have hF3 := hownU.alloc (.cells #[.int .i64 (q : Int), .int .i64 r2] 62)
      have HBB : Hid ((wU.alloc (.cells #[.int .i64 (q : Int), .int .i64 r2] 62)).heap[wU.heap.size]? = some (.cells #[.int .i64 (q : Int), .int .i64 r2] 62 (0, 0))) := alloc_last _ _
      have hbs : w0.heap.size ≤ (wU.alloc (.cells #[.int .i64 (q : Int), .int .i64 r2] 62)).heap.size := by have h1 := hg.size; have h2 := hgU.size; have h3 := (World.grownBy_alloc wU (.cells #[.int .i64 (q : Int), .int .i64 r2] 62) none).size; omega
      go_wp2_with (at_builtin; (refine append_pr rfl (.tmp 759) (.tmp 761) rfl w0.heap.size fv n _ rfl hF3 wU.heap.size (q : Int) r2 rfl HBB.out (by omega) hbs ?_; intro g cap w2 hown2 hgrow hat))
      have hg4 : w0.grownBy w2 none := grown_then (grown_then (grown_then hg hgU (fun j hj => by cases hj)) (World.grownBy_alloc _ _ none) (fun j hj => by cases hj)) hgrow (fun j hj => .inl (own_lt hownU hj))
      have hown4 : w2.ownsRow w0.heap.size 62 2 (.slice (some ⟨g, 0, none⟩) (n + 1) cap) (acc ++ (v.take (k + 1)).filter fun p => p.1 == (q : Int)).length ((acc ++ (v.take (k + 1)).filter fun p => p.1 == (q : Int)).flatMap encP) := by
        rw [HA3.out, List.length_append, List.flatMap_append, ← Hn.out]
        exact hown2
      clear hown2 hgrow hat hF3 HBB hbs hownU hown u0 u1
      refine ⟨end_frame rfl (fun y hy => ⟨k + 1, live_cons (hy 0) (live_cons (hy 8) (live_cons (hy 9) (live_cons (hy 10) (live_cons (hy 11) (live_cons (hy 12) (live_cons (hy 13) (live_cons (hy 42) (live_cons (hy 52) (live_cons (hy 53) (live_cons (hy 63) (live_cons (hy 64) (live_cons (hy 69) (live_cons ((hy 71).trans H71.out.symm) (live_cons (hy 538) (live_cons (hy 539) (live_cons (hy 676) (live_cons (hy 677) (live_cons (hy 678) (live_cons ((hy 749).trans H749.out.symm) (live_cons ((hy 750).trans H750.out.symm) (live_nil _))))))))))))))))))))), hy 751, by omega, hg4, by rw [show y 70 = .slice (some ⟨g, 0, none⟩) (n + 1) cap from hy 70]; exact hown4⟩), ?_⟩
      show m - (intOf (.int .i64 ((k : Int) + 1))).toNat < m - (intOf (.int .i64 (k : Int))).toNat
      simp [intOf]; omega
    · have HA3 : Hid ((acc ++ (v.take (k + 1)).filter fun p => p.1 == (q : Int)) = A) := by show _ = _; rw [HA2.out, if_neg he, List.append_nil]
      clear HA2
      have hde : (r1 == (q : Int)) = false := by simpa using he
      go_wp2
      refine ⟨end_frame rfl (fun y hy => ⟨k + 1, live_cons (hy 0) (live_cons (hy 8) (live_cons (hy 9) (live_cons (hy 10) (live_cons (hy 11) (live_cons (hy 12) (live_cons (hy 13) (live_cons (hy 42) (live_cons (hy 52) (live_cons (hy 53) (live_cons (hy 63) (live_cons (hy 64) (live_cons (hy 69) (live_cons ((hy 71).trans H71.out.symm) (live_cons (hy 538) (live_cons (hy 539) (live_cons (hy 676) (live_cons (hy 677) (live_cons (hy 678) (live_cons ((hy 749).trans H749.out.symm) (live_cons ((hy 750).trans H750.out.symm) (live_nil _))))))))))))))))))))), hy 751, by omega, hg.trans (World.grownBy_alloc _ _ none), by rw [show y 70 = fv from hy 70, HA3.out]; exact hown.alloc _⟩), ?_⟩
      show m - (intOf (.int .i64 ((k : Int) + 1))).toNat < m - (intOf (.int .i64 (k : Int))).toNat
      simp [intOf]; omega
  · have hd : decide ((k : Int) < (m : Int)) = false := by simp; omega
    have hd2 : decide (k < m) = false := by simp; omega
    obtain rfl : k = m := by omega
    rw [List.take_of_length_le (by omega)] at hown
    go_wp2
    refine at_frame (Q := fun a w => Q _ a w) rfl (fun y hy => ?_)
    have e70 : y 70 = fv := hy 70
    exact hexit y _ (live_cons (hy 0) (live_cons (hy 8) (live_cons (hy 9) (live_cons (hy 10) (live_cons (hy 11) (live_cons (hy 12) (live_cons (hy 13) (live_cons (hy 42) (live_cons (hy 52) (live_cons (hy 53) (live_cons (hy 63) (live_cons (hy 64) (live_cons (hy 69) (live_cons ((hy 71).trans H71.out.symm) (live_cons (hy 538) (live_cons (hy 539) (live_cons (hy 676) (live_cons (hy 677) (live_cons (hy 678) (live_cons ((hy 749).trans H749.out.symm) (live_cons ((hy 750).trans H750.out.symm) (live_nil _)))))))))))))))))))))) hg (by rw [e70]; exact hown)
end Go.Proofs.Ybulkeidm
