/-
  LawS6720BWhole: the pairs of a read that is not dense.
-/
import Derived.Test.YbulkeidmL7
namespace Go.Proofs.Ybulkeidm
open Go.RowKit

/-- Whether the pairs name replica q. -/
def used (v : List (Int × Int)) (q : Nat) : Bool := v.any fun p => p.1 == (q : Int)
/-- The replica that the read's k-th entry names. -/
def repOf (r : RdIn) (n k : Nat) : Nat := (r.qv k).toNat % n
/-- The pairs behind k entries: each replica but once. -/
def prs (r : RdIn) (n : Nat) : Nat → List (Int × Int)
  | 0 => []
  | k + 1 => if used (prs r n k) (repOf r n k) then prs r n k else prs r n k ++ [((repOf r n k : Int), r.pv k)]

theorem prs_reps (r : RdIn) (n : Nat) (h0 : 0 < n) (h8 : n ≤ 8) : ∀ k, Reps (prs r n k)
  | 0 => ⟨List.Pairwise.nil, (fun _ h => by cases h), (fun _ h => by cases h)⟩
  | k + 1 => by
    have ih := prs_reps r n h0 h8 k
    have hq : repOf r n k < n := Nat.mod_lt _ h0
    unfold prs
    by_cases hu : used (prs r n k) (repOf r n k) = true
    · rw [if_pos hu]; exact ih
    · rw [if_neg hu]
      have hne : ∀ p ∈ prs r n k, p.1 ≠ (repOf r n k : Int) := by
        intro p hp e
        apply hu
        simp only [used, List.any_eq_true, beq_iff_eq]
        exact ⟨p, hp, e⟩
      refine ⟨List.pairwise_append.2 ⟨ih.once, List.pairwise_singleton _ _, fun a ha b hb => ?_⟩, fun p hp => ?_, fun p hp => ?_⟩
      · rw [List.mem_singleton] at hb; subst hb; exact hne a ha
      · rcases List.mem_append.1 hp with h | h
        · exact ih.lo p h
        · rw [List.mem_singleton] at h; subst h; show (0 : Int) ≤ (repOf r n k : Int); omega
      · rcases List.mem_append.1 hp with h | h
        · exact ih.hi p h
        · rw [List.mem_singleton] at h; subst h; show (repOf r n k : Int) < 8; omega

theorem info62 : (Yba.prog.info? 62).map (fun i => (i.zero, i.size, i.bytes)) = some (some (.agg #[.int .i64 0, .int .i64 0]), 2, 16) := by kernel_rfl

theorem append_pr {w : World} {ops : Array Oper} {rest : List Oper} {o : Oper} {a : Act} {Q : Exit → Act → World → Prop} (hgd : o.guard = none) (s x : Operand)
    (ho : o.op = .call { callee := .builtin .append, args := #[s, x], argTypes := #[55, 55] })
    (base : Nat) (v : Value) (n : Nat) (xs : List Value) (hs : a.eval s = v) (hown : w.ownsRow base 62 2 v n xs) (B : Nat) (p q : Int) (hx : a.eval x = .slice (some ⟨B, 0, none⟩) 1 1) (hB : w.heap[B]? = some (.cells #[.int .i64 p, .int .i64 q] 62 (0, 0)))
    (hn : n ≤ 5000) (hbase : base ≤ w.heap.size)
    (h : ∀ g cap w', w'.ownsRow base 62 2 (.slice (some ⟨g, 0, none⟩) (n + 1) cap) (n + 1) (xs ++ [.int .i64 p, .int .i64 q]) → w.grownBy w' v.ownBlock → (v.ownBlock = some g ∨ g = w.heap.size) → wpList Yba.prog ops Q rest (a.put o.dst (.slice (some ⟨g, 0, none⟩) (n + 1) cap)) w') :
    wpList Yba.prog ops Q (o :: rest) a w := by
  obtain ⟨i0, hi, hz0, hz1, hz2⟩ := info_parts info62
  refine wpList_append_lies w hgd s x 55 ho base 62 i0 (.agg #[.int .i64 0, .int .i64 0]) 2 16 Yba.underlying55 hi hz0 hz1 hz2 rfl (by decide) v n xs hs hown ⟨B, 0, none⟩ 1 1 [.int .i64 p, .int .i64 q] hx rfl (World.news_of_block hB) (by simp [Value.oneCell']) (by decide) (by unfold maxLen; omega) (by omega) hbase _ rfl ?_
  intro g cap w' h1 h2 h3 _
  exact h g cap w' h1 h2 h3

theorem own_grown {w w' : World} {base : Nat} {e : TypeId} {size : Nat} {v : Value} {n : Nat} {xs : List Value} {row : Option Nat} (h : w.ownsRow base e size v n xs) (hg : w.grownBy w' row) (hr : ∀ g, row = some g → g < base) : w'.ownsRow base e size v n xs := by
  refine ⟨h.1, ?_⟩
  rcases h.2 with h1 | ⟨g, cap, cur, hv, hb, hgg, h2⟩
  · exact .inl h1
  · exact .inr ⟨g, cap, cur, hv, hb, by rw [hg.block g (lt_of_block hgg) (fun e => by have := hr g e.symm; omega)]; exact hgg, h2⟩

set_option maxHeartbeats 2000000 in
set_option maxRecDepth 100000 in
theorem loop8 (x : Nat → Value) (w W0 : World) (Q : Exit → Act → World → Prop) (rb ro ub n : Nat) (tu : TypeId) (r : RdIn) (h17 : x 17 = .int .i64 (n : Nat)) (h24 : x 24 = .pointer (some ⟨rb, ro, none⟩)) (h28 : x 28 = .pointer (some ⟨ub, 0, none⟩)) (h30 : x 30 = .int .i64 0) (h29 : x 29 = .slice none 0 0) (hR : RowF w ub tu 8 (fun _ => .bool false)) (hn : n ≤ 8) (hn0 : 0 < n)
    (hO : RdAt W0 rb ro r) (hB : Below W0.heap.size W0 w) (hub : W0.heap.size ≤ ub) (hubw : ub < w.heap.size)
    (hexit : ∀ x' w' K, Live [(0, x 0), (1, x 1), (8, x 8), (9, x 9), (10, x 10), (11, x 11), (12, x 12), (13, x 13), (14, x 14), (15, x 15), (16, x 16), (17, x 17), (18, x 18), (22, x 22), (24, x 24), (25, x 25), (28, x 28), (157, x 157), (158, x 158), (207, x 207), (208, x 208)] x' → K = min r.ql r.pl → w.grownBy w' (some ub) → w'.ownsRow w.heap.size 62 2 (x' 29) (prs r n K).length ((prs r n K).flatMap encP) → Q (.exit 14) ⟨frame x', []⟩ w') :
    Code.wp Yba.prog (.loop (loopAt Yba.f3 7)) Q ⟨frame x, []⟩ w := by
  refine wp_loop (fun a w' => ∃ (x' : Nat → Value), a = ⟨frame x', []⟩ ∧ ∃ (k : Nat), Live [(0, x 0), (1, x 1), (8, x 8), (9, x 9), (10, x 10), (11, x 11), (12, x 12), (13, x 13), (14, x 14), (15, x 15), (16, x 16), (17, x 17), (18, x 18), (22, x 22), (24, x 24), (25, x 25), (28, x 28), (157, x 157), (158, x 158), (207, x 207), (208, x 208)] x' ∧ x' 30 = .int .i64 (k : Nat) ∧ k ≤ r.ql ∧ k ≤ r.pl ∧ w.grownBy w' (some ub) ∧ w'.ownsRow w.heap.size 62 2 (x' 29) (prs r n k).length ((prs r n k).flatMap encP) ∧ RowF w' ub tu 8 (fun q => .bool (used (prs r n k) q))) (fun a _ => r.ql - (intOf (a.tmps.getD 30 (.bool false))).toNat) ⟨x, rfl, 0, live_cons (rfl) (live_cons (rfl) (live_cons (rfl) (live_cons (rfl) (live_cons (rfl) (live_cons (rfl) (live_cons (rfl) (live_cons (rfl) (live_cons (rfl) (live_cons (rfl) (live_cons (rfl) (live_cons (rfl) (live_cons (rfl) (live_cons (rfl) (live_cons (rfl) (live_cons (rfl) (live_cons (rfl) (live_cons (rfl) (live_cons (rfl) (live_cons (rfl) (live_cons (rfl) (live_nil _))))))))))))))))))))), h30, by omega, by omega, World.grownBy.refl _ _, by rw [h29]; exact ⟨rfl, .inl ⟨rfl, rfl⟩⟩, hR.turn _ (fun k _ => by simp [prs, used])⟩ ?_
  clear hR
  rintro a w' ⟨x', rfl, k, hl, o30, hk1, hk2, hg, hF, hR⟩
  obtain ⟨fv, o29⟩ : ∃ fv, x' 29 = fv := ⟨_, rfl⟩
  rw [o29] at hF
  have e0 := hl.head
  have e1 := hl.tail.head
  have e8 := hl.tail.tail.head
  have e9 := hl.tail.tail.tail.head
  have e10 := hl.tail.tail.tail.tail.head
  have e11 := hl.tail.tail.tail.tail.tail.head
  have e12 := hl.tail.tail.tail.tail.tail.tail.head
  have e13 := hl.tail.tail.tail.tail.tail.tail.tail.head
  have e14 := hl.tail.tail.tail.tail.tail.tail.tail.tail.head
  have e15 := hl.tail.tail.tail.tail.tail.tail.tail.tail.tail.head
  have e16 := hl.tail.tail.tail.tail.tail.tail.tail.tail.tail.tail.head
  have e17 := (hl.tail.tail.tail.tail.tail.tail.tail.tail.tail.tail.tail.head).trans h17
  have e18 := hl.tail.tail.tail.tail.tail.tail.tail.tail.tail.tail.tail.tail.head
  have e22 := hl.tail.tail.tail.tail.tail.tail.tail.tail.tail.tail.tail.tail.tail.head
  have e24 := (hl.tail.tail.tail.tail.tail.tail.tail.tail.tail.tail.tail.tail.tail.tail.head).trans h24
  have e25 := hl.tail.tail.tail.tail.tail.tail.tail.tail.tail.tail.tail.tail.tail.tail.tail.head
  have e28 := (hl.tail.tail.tail.tail.tail.tail.tail.tail.tail.tail.tail.tail.tail.tail.tail.tail.head).trans h28
  have e157 := hl.tail.tail.tail.tail.tail.tail.tail.tail.tail.tail.tail.tail.tail.tail.tail.tail.tail.head
  have e158 := hl.tail.tail.tail.tail.tail.tail.tail.tail.tail.tail.tail.tail.tail.tail.tail.tail.tail.tail.head
  have e207 := hl.tail.tail.tail.tail.tail.tail.tail.tail.tail.tail.tail.tail.tail.tail.tail.tail.tail.tail.tail.head
  have e208 := hl.tail.tail.tail.tail.tail.tail.tail.tail.tail.tail.tail.tail.tail.tail.tail.tail.tail.tail.tail.tail.head
  rw [frame_lit, e0, e1, e8, e9, e10, e11, e12, e13, e14, e15, e16, e17, e18, e22, e24, e25, e28, e157, e158, e207, e208, o30, o29]
  clear e0 e1 e8 e9 e10 e11 e12 e13 e14 e15 e16 e17 e18 e22 e24 e25 e28 e157 e158 e207 e208 hl o30 o29
  conv => arg 2; whnf
  have hB' : Below W0.heap.size W0 w' := below_grown hB hg (fun g hg => by cases hg; exact hub) hB.size
  have hO' := hO.below hB' (Nat.le_refl _)
  have c3 := hO'.c3
  have c4 := hO'.c4
  have hpb := hO.pb
  have hqb := hO.qb
  by_cases hq : k < r.ql
  · by_cases hp : k < r.pl
    · obtain ⟨pb, po, hpa, cP⟩ := hO'.ps k hp
      obtain ⟨qb, qo, hqa, cQ⟩ := hO'.qs k hq
      rw [hpa] at c3
      rw [hqa] at c4
      simp only at cP cQ
      have i1 : (k : Int) < (r.ql : Int) := by omega
      have i2 : (k : Int) < (r.pl : Int) := by omega
      have hq0 := hO.q0 k hq
      obtain ⟨qn, hqn⟩ : ∃ qn, qn = repOf r n k := ⟨_, rfl⟩
      have hqlt : qn < n := by rw [hqn]; exact Nat.mod_lt _ hn0
      have HQ : Hid (r.qv k % (n : Int) = (qn : Int)) := by show r.qv k % (n : Int) = (qn : Int); rw [hqn, repOf, Int.natCast_emod, Int.toNat_of_nonneg hq0.1]
      have HQN : Hid (qn = repOf r n k) := hqn
      obtain ⟨qv, hqv⟩ : ∃ qv, qv = r.qv k := ⟨_, rfl⟩
      obtain ⟨pv, hpv⟩ : ∃ pv, pv = r.pv k := ⟨_, rfl⟩
      rw [← hqv] at cQ hq0 HQ
      rw [← hpv] at cP
      have HPV : Hid (pv = r.pv k) := hpv
      clear hqv hqn hpv
      have fU := hR.rowB.frozen qn
      have hul := hR.rowB.lt
      have cU : w'.cell? ⟨ub, qn, none⟩ = some (.bool (used (prs r n k) qn)) := hR.cell qn (by omega)
      have i3 : (qn : Int) < 8 := by omega
      have i4 : (n : Int) ≠ 0 := by omega
      have i5 : (0 : Int) < (n : Int) := by omega
      cases hu : used (prs r n k) qn with
      | true =>
        rw [hu] at cU
        have HP : Hid (prs r n (k + 1) = prs r n k) := by show prs r n (k + 1) = prs r n k; rw [prs, ← HQN.out, if_pos hu]
        clear hu
        go_upto_region 61 with fail
        rw [HQ.out]
        go_wp2
        refine ⟨end_frame rfl (fun y hy => ⟨k + 1, live_cons (hy 0) (live_cons (hy 1) (live_cons (hy 8) (live_cons (hy 9) (live_cons (hy 10) (live_cons (hy 11) (live_cons (hy 12) (live_cons (hy 13) (live_cons (hy 14) (live_cons (hy 15) (live_cons (hy 16) (live_cons ((hy 17).trans h17.symm) (live_cons (hy 18) (live_cons (hy 22) (live_cons ((hy 24).trans h24.symm) (live_cons (hy 25) (live_cons ((hy 28).trans h28.symm) (live_cons (hy 157) (live_cons (hy 158) (live_cons (hy 207) (live_cons (hy 208) (live_nil _))))))))))))))))))))), hy 30, by omega, by omega, hg, ?_, ?_⟩), ?_⟩
        · rw [HP.out, show y 29 = fv from hy 29]; exact hF
        · rw [HP.out]; exact hR
        · show r.ql - (intOf (.int .i64 ((k : Int) + 1))).toNat < r.ql - (intOf (.int .i64 (k : Int))).toNat
          simp [intOf]; omega
      | false =>
        rw [hu] at cU
        have HP : Hid (prs r n (k + 1) = prs r n k ++ [((qn : Int), pv)]) := by show prs r n (k + 1) = _; rw [prs, ← HQN.out, if_neg (by rw [hu]; simp), HPV.out]
        clear hu
        have hlen := (prs_reps r n hn0 hn k).len
        obtain ⟨m, hm⟩ : ∃ m, m = (prs r n k).length := ⟨_, rfl⟩
        have Hm : Hid (m = (prs r n k).length) := hm
        rw [← hm] at hF hlen
        clear hm
        have ne1 : rb ≠ ub := by have h9 := lt_cell hO.c3; intro e; simp at h9; omega
        have ne2 : pb ≠ ub := by obtain ⟨pb', po', h1, h2⟩ := hO.ps k hp; have h9 := lt_cell h2; rw [hpa] at h1; cases h1; intro e; simp at h9; omega
        have hF2 : (w'.setCell ⟨ub, qn, none⟩ (.bool true)).ownsRow w.heap.size 62 2 fv m ((prs r n k).flatMap encP) := own_grown hF (grown_setCell _ _ _ _) (fun g hg => by cases hg; exact hubw)
        have hF3 := hF2.alloc (.cells #[.int .i64 (qn : Int), .int .i64 pv] 62)
        have hszs : (w'.setCell ⟨ub, qn, none⟩ (.bool true)).heap.size = w'.heap.size := by simp [World.setCell]
        have HBB : Hid (((w'.setCell ⟨ub, qn, none⟩ (.bool true)).alloc (.cells #[.int .i64 (qn : Int), .int .i64 pv] 62)).heap[w'.heap.size]? = some (.cells #[.int .i64 (qn : Int), .int .i64 pv] 62 (0, 0))) := by show _ = _; rw [← hszs]; exact alloc_last _ _
        have hbs : w.heap.size ≤ ((w'.setCell ⟨ub, qn, none⟩ (.bool true)).alloc (.cells #[.int .i64 (qn : Int), .int .i64 pv] 62)).heap.size := by have h1 := hg.size; have h2 := (World.grownBy_alloc (w'.setCell ⟨ub, qn, none⟩ (.bool true)) (.cells #[.int .i64 (qn : Int), .int .i64 pv] 62) none).size; omega
        clear hszs
        go_upto_region 61 with fail
        rw [HQ.out]
        go_wp2_with (at_builtin; (refine append_pr rfl (.tmp 299) (.tmp 309) rfl w.heap.size fv m _ rfl hF3 w'.heap.size (qn : Int) pv rfl HBB.out (by omega) hbs ?_; intro g cap w2 hown2 hgrow hat))
        have hgn : ∀ j, fv.ownBlock = some j → w.heap.size ≤ j := fun j hj => own_lt hF hj
        have hg4 : w.grownBy w2 (some ub) := grown_then (hg.trans ((grown_setCell _ _ _ _).trans (World.grownBy_alloc _ _ _))) hgrow (fun j hj => .inl (hgn j hj))
        have hR4 : RowF w2 ub tu 8 (fun q => .bool (used (prs r n (k + 1)) q)) := by
          have h1 := (hR.set qn (.bool true) (fun q => .bool (used (prs r n (k + 1)) q)) (by omega) (by rw [HP.out]; simp [used]) (fun j hj hne => by
            rw [HP.out]
            have : ((qn : Int) == (j : Int)) = false := by simp; omega
            simp [used, this])).grown (World.grownBy_alloc _ (.cells #[.int .i64 (qn : Int), .int .i64 pv] 62) none) (by simp)
          exact h1.grown hgrow (fun e => by have := hgn ub e.symm; omega)
        have hF4 : w2.ownsRow w.heap.size 62 2 (.slice (some ⟨g, 0, none⟩) (m + 1) cap) (prs r n (k + 1)).length ((prs r n (k + 1)).flatMap encP) := by
          rw [HP.out, List.length_append, List.flatMap_append, ← Hm.out]
          exact hown2
        clear hown2 hgrow hat hF2 hF3 HBB hbs hR hF hB' hO' cU fU
        refine ⟨end_frame rfl (fun y hy => ⟨k + 1, live_cons (hy 0) (live_cons (hy 1) (live_cons (hy 8) (live_cons (hy 9) (live_cons (hy 10) (live_cons (hy 11) (live_cons (hy 12) (live_cons (hy 13) (live_cons (hy 14) (live_cons (hy 15) (live_cons (hy 16) (live_cons ((hy 17).trans h17.symm) (live_cons (hy 18) (live_cons (hy 22) (live_cons ((hy 24).trans h24.symm) (live_cons (hy 25) (live_cons ((hy 28).trans h28.symm) (live_cons (hy 157) (live_cons (hy 158) (live_cons (hy 207) (live_cons (hy 208) (live_nil _))))))))))))))))))))), hy 30, by omega, by omega, hg4, ?_, hR4⟩), ?_⟩
        · rw [show y 29 = .slice (some ⟨g, 0, none⟩) (m + 1) cap from hy 29]; exact hF4
        · show r.ql - (intOf (.int .i64 ((k : Int) + 1))).toNat < r.ql - (intOf (.int .i64 (k : Int))).toNat
          simp [intOf]; omega
    · have hd : decide ((k : Int) < (r.pl : Int)) = false := by simp; omega
      have hd2 : decide (k < r.pl) = false := by simp; omega
      have i1 : (k : Int) < (r.ql : Int) := by omega
      have hK : k = min r.ql r.pl := by omega
      have HK : Hid (k = min r.ql r.pl) := hK
      clear hK
      go_wp2
      refine at_frame (Q := fun a w => Q _ a w) rfl (fun y hy => ?_)
      refine hexit y _ k (live_cons (hy 0) (live_cons (hy 1) (live_cons (hy 8) (live_cons (hy 9) (live_cons (hy 10) (live_cons (hy 11) (live_cons (hy 12) (live_cons (hy 13) (live_cons (hy 14) (live_cons (hy 15) (live_cons (hy 16) (live_cons ((hy 17).trans h17.symm) (live_cons (hy 18) (live_cons (hy 22) (live_cons ((hy 24).trans h24.symm) (live_cons (hy 25) (live_cons ((hy 28).trans h28.symm) (live_cons (hy 157) (live_cons (hy 158) (live_cons (hy 207) (live_cons (hy 208) (live_nil _)))))))))))))))))))))) HK.out hg ?_
      rw [show y 29 = fv from hy 29]
      exact hF
  · have hd : decide ((k : Int) < (r.ql : Int)) = false := by simp; omega
    have hd2 : decide (k < r.ql) = false := by simp; omega
    have hK : k = min r.ql r.pl := by omega
    have HK : Hid (k = min r.ql r.pl) := hK
    clear hK
    go_wp2
    refine at_frame (Q := fun a w => Q _ a w) rfl (fun y hy => ?_)
    refine hexit y _ k (live_cons (hy 0) (live_cons (hy 1) (live_cons (hy 8) (live_cons (hy 9) (live_cons (hy 10) (live_cons (hy 11) (live_cons (hy 12) (live_cons (hy 13) (live_cons (hy 14) (live_cons (hy 15) (live_cons (hy 16) (live_cons ((hy 17).trans h17.symm) (live_cons (hy 18) (live_cons (hy 22) (live_cons ((hy 24).trans h24.symm) (live_cons (hy 25) (live_cons ((hy 28).trans h28.symm) (live_cons (hy 157) (live_cons (hy 158) (live_cons (hy 207) (live_cons (hy 208) (live_nil _)))))))))))))))))))))) HK.out hg ?_
    rw [show y 29 = fv from hy 29]
    exact hF
end Go.Proofs.Ybulkeidm
