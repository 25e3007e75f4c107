/-
  LawS6720BWhole: the check.
-/
import Derived.Test.YbulkeidmL18
import Derived.Test.YbulkeidmL17
import Derived.Test.YbulkeidmL15
import Derived.Test.YbulkeidmL3
namespace Go.Proofs.Ybulkeidm
open Go.RowKit

theorem Chk.keyG {D : Nat → ObIn} {r0 N : Nat} {G : Nat → Option Gh} {kf kl : Nat → Int} {rk : Nat → RK} {ob : Nat → OG} {cg : Nat → CG} {E : List (Nat × Nat)} {H : List Nat} {S : Nat → Bool} {tb : Nat} {w w2 : World} {i xb : Nat} (h : Chk D r0 N G kf kl rk ob cg E H S tb w) (hi : i < N) (d : Nat) (hd : d ∈ (ob i).rds) (hg : w.grownBy w2 none) (hx : w.heap.size ≤ xb) : KeyG w2 xb d (kf d) (kl d) := by
  obtain ⟨cs, t, e, ec, te, fv, sv, a1, a2, _, _, a5, a6, a7, _⟩ := ((h.each i hi).ok.rd d hd).ex
  have l1 := lt_of_block (h.mem.plain a1)
  have l2 := lt_of_block (h.mem.plain a5)
  exact ⟨e, by omega, by omega, hg.cell (cellOf (h.mem.plain a1) 0 _ a2) (by simp), hg.cell (cellOf (h.mem.plain a5) 0 _ a6) (by simp), hg.cell (cellOf (h.mem.plain a5) 1 _ a7) (by simp)⟩

set_option maxHeartbeats 4000000 in
set_option maxRecDepth 100000 in
theorem loop13 (x : Nat → Value) (w : World) (Q : Exit → Act → World → Prop) (r0 N tb cO : Nat) (ao : Option Addr) (D : Nat → ObIn) (G : Nat → Option Gh) (kf kl : Nat → Int) (rk : Nat → RK) (ob : Nat → OG) (cg : Nat → CG) (E : List (Nat × Nat)) (H : List Nat) (S : Nat → Bool) (h0 : x 0 = .slice ao N cO) (h8 : x 8 = .slice (some ⟨r0, 0, none⟩) N N) (h9 : x 9 = .slice (some ⟨r0 + 1, 0, none⟩) N N) (h10 : x 10 = .map (some (r0 + 2))) (h11 : x 11 = .slice (some ⟨r0 + 3, 0, none⟩) N N) (h12 : x 12 = .slice (some ⟨r0 + 4, 0, none⟩) N N) (h13 : x 13 = .slice (some ⟨r0 + 5, 0, none⟩) N N) (h42 : x 42 = .slice (some ⟨tb, 0, none⟩) N N) (h538 : x 538 = .int .i64 (N : Nat)) (h539 : x 539 = .int .i64 0)
    (hCk : Chk D r0 N G kf kl rk ob cg E H S tb w) (hN : N ≤ 4096) (hO : ObsAt w ao N D)
    (hexit : ∀ x' w', w.grownBy w' none → Q (.exit 24) ⟨frame x', []⟩ w') :
    Code.wp Yba.prog (.loop (loopAt Yba.f3 12)) Q ⟨frame x, []⟩ w := by
  refine wp_loop (fun a w' => ∃ (x' : Nat → Value), a = ⟨frame x', []⟩ ∧ ∃ (i : Nat), Live [(0, x 0), (8, x 8), (9, x 9), (10, x 10), (11, x 11), (12, x 12), (13, x 13), (42, x 42), (538, x 538)] x' ∧ x' 539 = .int .i64 (i : Nat) ∧ i ≤ N ∧ w.grownBy w' none) (fun a _ => N - (intOf (a.tmps.getD 539 (.bool false))).toNat) ⟨x, rfl, 0, live_cons (rfl) (live_cons (rfl) (live_cons (rfl) (live_cons (rfl) (live_cons (rfl) (live_cons (rfl) (live_cons (rfl) (live_cons (rfl) (live_cons (rfl) (live_nil _))))))))), h539, by omega, World.grownBy.refl _ _⟩ ?_
  rintro a w' ⟨x', rfl, i, hl, o539, hi, hg⟩
  have e0 := (hl.head).trans h0
  have e8 := (hl.tail.head).trans h8
  have e9 := (hl.tail.tail.head).trans h9
  have e10 := (hl.tail.tail.tail.head).trans h10
  have e11 := (hl.tail.tail.tail.tail.head).trans h11
  have e12 := (hl.tail.tail.tail.tail.tail.head).trans h12
  have e13 := (hl.tail.tail.tail.tail.tail.tail.head).trans h13
  have e42 := (hl.tail.tail.tail.tail.tail.tail.tail.head).trans h42
  have e538 := (hl.tail.tail.tail.tail.tail.tail.tail.tail.head).trans h538
  rw [frame_lit, e0, e8, e9, e10, e11, e12, e13, e42, e538, o539]
  clear e0 e8 e9 e10 e11 e12 e13 e42 e538 hl o539
  conv => arg 2; whnf
  have H0 : Hid (x 0 = .slice ao N cO) := h0
  have H8 : Hid (x 8 = .slice (some ⟨r0, 0, none⟩) N N) := h8
  have H9 : Hid (x 9 = .slice (some ⟨r0 + 1, 0, none⟩) N N) := h9
  have H10 : Hid (x 10 = .map (some (r0 + 2))) := h10
  have H11 : Hid (x 11 = .slice (some ⟨r0 + 3, 0, none⟩) N N) := h11
  have H12 : Hid (x 12 = .slice (some ⟨r0 + 4, 0, none⟩) N N) := h12
  have H13 : Hid (x 13 = .slice (some ⟨r0 + 5, 0, none⟩) N N) := h13
  have H42 : Hid (x 42 = .slice (some ⟨tb, 0, none⟩) N N) := h42
  have H538 : Hid (x 538 = .int .i64 (N : Nat)) := h538
  clear h0 h8 h9 h10 h11 h12 h13 h42 h538
  by_cases hlt : i < N
  · have i1 : (i : Int) < (N : Int) := by omega
    obtain ⟨sb, so, rfl, hOi⟩ := hO i hlt
    have hO' := hOi.below (below_of_grown hg) (Nat.le_refl _)
    have HO' : Hid (ObAt w' sb (so + i * 4) (D i)) := hO'
    have hC := hCk.grown hg
    have HC : Hid (Chk D r0 N G kf kl rk ob cg E H S tb w') := hC
    have hEa := hC.each i hlt
    have c0 := hO'.c0
    have c1 := hO'.c1
    have hv0 := hO'.n0
    have hub := hO'.rb
    obtain ⟨n, hn⟩ : ∃ n : Nat, n = (D i).n8.toNat % 8 + 1 := ⟨_, rfl⟩
    have hnI : (D i).n8 % 8 + 1 = (n : Int) := by omega
    have hn8 : n ≤ 8 := by omega
    have hon : (ob i).n = n := by rw [hn]; exact hEa.n
    have Hon : Hid ((ob i).n = n) := hon
    obtain ⟨v, hv⟩ : ∃ v, v = (D i).n8 := ⟨_, rfl⟩
    rw [← hv] at c1 hv0 hnI
    have hml := hEa.len
    obtain ⟨m, hm⟩ : ∃ m, m = (ob i).rds.length := ⟨_, rfl⟩
    have Hm : Hid ((ob i).rds.length = m) := hm.symm
    have hmb : m ≤ 1954687338268 := by omega
    obtain ⟨bb, hbb⟩ : ∃ bb, bb = (cg i).br := ⟨_, rfl⟩
    have Hbb : Hid ((cg i).br = bb) := hbb.symm
    obtain ⟨oo, hoo⟩ : ∃ oo, oo = (ob i).poo := ⟨_, rfl⟩
    obtain ⟨pq, hpq⟩ : ∃ pq, pq = (ob i).pc := ⟨_, rfl⟩
    obtain ⟨po, hpo⟩ : ∃ po, po = (ob i).po := ⟨_, rfl⟩
    obtain ⟨pu, hpu⟩ : ∃ pu, pu = (ob i).pu := ⟨_, rfl⟩
    obtain ⟨pr, hpr⟩ : ∃ pr, pr = (ob i).pr := ⟨_, rfl⟩
    obtain ⟨cr, hcr⟩ : ∃ cr, cr = (ob i).cr := ⟨_, rfl⟩
    have c8 := hC.c8 hlt
    have c9 := hC.c9 hlt
    have c11 := hC.c11 hlt
    have coo := hC.coo hlt
    have cup := hC.cup hlt
    have crd := hC.crd hlt
    have ct := hC.ct hlt
    have hup := hC.up hlt
    have hrds := hC.rds hlt
    have hbr := hC.br hlt
    have hL := hC.lookup hlt
    rw [← hpo] at c8
    rw [← hpq] at c9 coo
    rw [← hoo] at coo cup crd
    rw [hon, ← hpu] at cup
    rw [hon, ← hpu] at hup
    rw [← hm, ← hpr, ← hcr] at crd
    rw [← hm, ← hbb] at c11
    rw [← hpr] at hrds
    rw [← hbb] at hbr
    rw [← hpo, ← hpq] at hL
    have hq66 := neq66 pq
    have Hup : Hid (∀ q, q < n → ∃ A C, w'.cell? ⟨pu, q, none⟩ = some (.slice A (updLen (D i) q) C)) := hup
    obtain ⟨b, hb⟩ : ∃ b, b = decide (i ∈ H) := ⟨_, rfl⟩
    rw [← hb] at ct hrds
    clear hv hn hup hml hm hbb hoo hpq hpo hpu hpr hcr hb hEa hon hO' hC hCk
    have i2 : (i : Int) < (N : Int) := by omega
    cases hp : (D i).present with
    | true =>
      rw [hp] at c0
      have hL' : ∀ k, (Instr.lookup 32 (.map (some (r0 + 2))) (ptr po) false).run Yba.prog (w'.drewN k) = .ok (ptr pq) (w'.drewN k) := fun k => hL hp _ rfl
      clear hL
      go_upto_region 136 with fail
      go_quiet (fail)
      go_wp2
      obtain ⟨wP, hwP⟩ : ∃ wP, wP = w'.drewN nq := ⟨_, rfl⟩
      have hgP : w'.grownBy wP none := by rw [hwP]; exact grown_drewN _ _ _
      rw [← hwP]
      clear hwP
      refine wp_frame rfl (fun x1 hx => ?_)
      refine loop14 x1 wP _ sb (so + i * 4) oo pu n (D i) (hx 53) (hx 54) (hx 55) (hx 56) hn8 (HO'.out.below (below_of_grown hgP) (Nat.le_refl _)) (hgP.cell cup (by simp)) (fun q hq => by obtain ⟨A, C, h⟩ := Hup.out q hq; exact ⟨A, C, hgP.cell h (by simp)⟩) ?_
      rintro x2 w1 hl2 hg1
      have e0 : x2 0 = .slice (some ⟨sb, so, none⟩) N cO := (hl2.head).trans (hx 0)
      have e8 : x2 8 = .slice (some ⟨r0, 0, none⟩) N N := (hl2.tail.head).trans (hx 8)
      have e9 : x2 9 = .slice (some ⟨r0 + 1, 0, none⟩) N N := (hl2.tail.tail.head).trans (hx 9)
      have e10 : x2 10 = .map (some (r0 + 2)) := (hl2.tail.tail.tail.head).trans (hx 10)
      have e11 : x2 11 = .slice (some ⟨r0 + 3, 0, none⟩) N N := (hl2.tail.tail.tail.tail.head).trans (hx 11)
      have e12 : x2 12 = .slice (some ⟨r0 + 4, 0, none⟩) N N := (hl2.tail.tail.tail.tail.tail.head).trans (hx 12)
      have e13 : x2 13 = .slice (some ⟨r0 + 5, 0, none⟩) N N := (hl2.tail.tail.tail.tail.tail.tail.head).trans (hx 13)
      have e42 : x2 42 = .slice (some ⟨tb, 0, none⟩) N N := (hl2.tail.tail.tail.tail.tail.tail.tail.head).trans (hx 42)
      have e52 : x2 52 = .int .i64 (i : Nat) := (hl2.tail.tail.tail.tail.tail.tail.tail.tail.head).trans (hx 52)
      have e53 : x2 53 = .pointer (some ⟨sb, so + i * 4, none⟩) := (hl2.tail.tail.tail.tail.tail.tail.tail.tail.tail.head).trans (hx 53)
      have e54 : x2 54 = .int .i64 (n : Nat) := (hl2.tail.tail.tail.tail.tail.tail.tail.tail.tail.tail.head).trans (hx 54)
      have e55 : x2 55 = .pointer (some ⟨oo, 0, none⟩) := (hl2.tail.tail.tail.tail.tail.tail.tail.tail.tail.tail.tail.head).trans (hx 55)
      have e538 : x2 538 = .int .i64 (N : Nat) := (hl2.tail.tail.tail.tail.tail.tail.tail.tail.tail.tail.tail.tail.head).trans (hx 538)
      have e539 : x2 539 = .int .i64 (i : Nat) := (hl2.tail.tail.tail.tail.tail.tail.tail.tail.tail.tail.tail.tail.tail.head).trans (hx 539)
      rw [frame_lit, e0, e8, e9, e10, e11, e12, e13, e42, e52, e53, e54, e55, e538, e539]
      clear e0 e8 e9 e10 e11 e12 e13 e42 e52 e53 e54 e55 e538 e539 hl2 hx
      have hgw1 : w'.grownBy w1 none := hgP.trans hg1
      have c111 := hgw1.cell c11 (by simp)
      have hbw : PRow w1 bb (ob i).rds := ⟨[], by rw [hgw1.block bb (lt_of_block hbr) (by simp), hbr, List.append_nil]⟩
      clear hgP hg1 c0 c1 c8 c9 c11 coo cup hq66 hL'
      have hmk := run_make_row' (P := Yba.prog) 45 47 (.pointer none) 8 Yba.underlying45 info47 rfl .i64 .i64 m (by omega) (by omega)
      go_upto_region 148 with fail
      obtain ⟨wf, hwf⟩ : ∃ wf, wf = w1.alloc (.cells (madeCells #[Value.pointer none] m) 47) := ⟨_, rfl⟩
      have hgf : w1.grownBy wf none := by rw [hwf]; exact World.grownBy_alloc _ _ _
      have hcp := fun ty => copy_reads w1 wf ty bb m m (ob i).rds hwf hbw Hm.out
      have hrf : wf.heap[w1.heap.size]? = some (.cells (madeCells #[Value.pointer none] m) 47 (0, 0)) := by rw [hwf]; exact alloc_last _ _
      rw [← hwf]
      clear hwf hmk hbw c111
      obtain ⟨xb, hxb⟩ : ∃ xb, xb = w1.heap.size := ⟨_, rfl⟩
      have Hxb : Hid (w'.heap.size ≤ xb) := by show w'.heap.size ≤ xb; rw [hxb]; exact hgw1.size
      rw [← hxb] at hcp hrf ⊢
      clear hxb
      go_upto_region 149 with fail
      obtain ⟨wg, hwg⟩ : ∃ wg, wg = wf.setRow xb ((ob i).rds.map ptr).toArray := ⟨_, rfl⟩
      have hX : PRow wg xb (ob i).rds := ⟨[], by rw [hwg, setRow_heap wf xb _ _ 47 (0, 0) hrf, List.append_nil]⟩
      have hgg : wf.grownBy wg (some xb) := by rw [hwg]; exact grown_setRow _ _ _
      rw [← hwg]
      clear hwg hcp hrf
      have hgw2 : w'.grownBy wg none := grown_then (hgw1.trans hgf) hgg (fun q hq => by cases hq; left; exact Hxb.out)
      have ct2 := hgw2.cell ct (by simp)
      clear ct hgf hgg hgw1
      cases b with
      | true =>
        have hKy : ∀ d ∈ (ob i).rds, KeyG wg xb d (kf d) (kl d) := fun d hd => HC.out.keyG hlt d hd hgw2 Hxb.out
        simp only [cond_true] at hrds
        go_wp2
        refine wp_frame rfl (fun x3 hx3 => ?_)
        refine loop15 x3 wg _ xb m kf kl (ob i).rds (hx3 58) (hx3 59) Hm.out hmb hX hKy ?_
        rintro x4 w3 hl4 hg3 hX3
        have e0 : x4 0 = .slice (some ⟨sb, so, none⟩) N cO := (hl4.head).trans (hx3 0)
        have e8 : x4 8 = .slice (some ⟨r0, 0, none⟩) N N := (hl4.tail.head).trans (hx3 8)
        have e9 : x4 9 = .slice (some ⟨r0 + 1, 0, none⟩) N N := (hl4.tail.tail.head).trans (hx3 9)
        have e10 : x4 10 = .map (some (r0 + 2)) := (hl4.tail.tail.tail.head).trans (hx3 10)
        have e11 : x4 11 = .slice (some ⟨r0 + 3, 0, none⟩) N N := (hl4.tail.tail.tail.tail.head).trans (hx3 11)
        have e12 : x4 12 = .slice (some ⟨r0 + 4, 0, none⟩) N N := (hl4.tail.tail.tail.tail.tail.head).trans (hx3 12)
        have e13 : x4 13 = .slice (some ⟨r0 + 5, 0, none⟩) N N := (hl4.tail.tail.tail.tail.tail.tail.head).trans (hx3 13)
        have e42 : x4 42 = .slice (some ⟨tb, 0, none⟩) N N := (hl4.tail.tail.tail.tail.tail.tail.tail.head).trans (hx3 42)
        have e52 : x4 52 = .int .i64 (i : Nat) := (hl4.tail.tail.tail.tail.tail.tail.tail.tail.head).trans (hx3 52)
        have e53 : x4 53 = .pointer (some ⟨sb, so + i * 4, none⟩) := (hl4.tail.tail.tail.tail.tail.tail.tail.tail.tail.head).trans (hx3 53)
        have e55 : x4 55 = .pointer (some ⟨oo, 0, none⟩) := (hl4.tail.tail.tail.tail.tail.tail.tail.tail.tail.tail.head).trans (hx3 55)
        have e57 : x4 57 = .slice (some ⟨bb, 0, none⟩) m m := (hl4.tail.tail.tail.tail.tail.tail.tail.tail.tail.tail.tail.head).trans (hx3 57)
        have e58 : x4 58 = .slice (some ⟨xb, 0, none⟩) m m := (hl4.tail.tail.tail.tail.tail.tail.tail.tail.tail.tail.tail.tail.head).trans (hx3 58)
        have e538 : x4 538 = .int .i64 (N : Nat) := (hl4.tail.tail.tail.tail.tail.tail.tail.tail.tail.tail.tail.tail.tail.head).trans (hx3 538)
        have e539 : x4 539 = .int .i64 (i : Nat) := (hl4.tail.tail.tail.tail.tail.tail.tail.tail.tail.tail.tail.tail.tail.tail.head).trans (hx3 539)
        rw [frame_lit, e0, e8, e9, e10, e11, e12, e13, e42, e52, e53, e55, e57, e58, e538, e539]
        clear e0 e8 e9 e10 e11 e12 e13 e42 e52 e53 e55 e57 e58 e538 e539 hl4 hx3
        have hgw3 : w'.grownBy w3 none := grown_then hgw2 hg3 (fun q hq => by cases hq; left; exact Hxb.out)
        have HLs : Hid ((isort (ltd kf kl) (ob i).rds).length = m) := by show _ = m; rw [isort_length]; exact Hm.out
        clear hX hKy ct2 hg3 hgw2
        have crd3 := (hgw3).cell crd (by simp)
        have hA3 := hrds.block ((hgw3).block _ hrds.lt (by simp))
        clear crd
        go_wp2
        refine wp_frame rfl (fun x5 hx5 => ?_)
        refine loop17 x5 w3 _ oo xb pr m cr (isort (ltd kf kl) (ob i).rds) (hx5 55) (hx5 58) (hx5 659) (hx5 660) HLs.out hmb crd3 hA3 hX3 ?_
        rintro x6 w5 hl6 hg5
        have e0 : x6 0 = .slice (some ⟨sb, so, none⟩) N cO := (hl6.head).trans (hx5 0)
        have e8 : x6 8 = .slice (some ⟨r0, 0, none⟩) N N := (hl6.tail.head).trans (hx5 8)
        have e9 : x6 9 = .slice (some ⟨r0 + 1, 0, none⟩) N N := (hl6.tail.tail.head).trans (hx5 9)
        have e10 : x6 10 = .map (some (r0 + 2)) := (hl6.tail.tail.tail.head).trans (hx5 10)
        have e11 : x6 11 = .slice (some ⟨r0 + 3, 0, none⟩) N N := (hl6.tail.tail.tail.tail.head).trans (hx5 11)
        have e12 : x6 12 = .slice (some ⟨r0 + 4, 0, none⟩) N N := (hl6.tail.tail.tail.tail.tail.head).trans (hx5 12)
        have e13 : x6 13 = .slice (some ⟨r0 + 5, 0, none⟩) N N := (hl6.tail.tail.tail.tail.tail.tail.head).trans (hx5 13)
        have e42 : x6 42 = .slice (some ⟨tb, 0, none⟩) N N := (hl6.tail.tail.tail.tail.tail.tail.tail.head).trans (hx5 42)
        have e52 : x6 52 = .int .i64 (i : Nat) := (hl6.tail.tail.tail.tail.tail.tail.tail.tail.head).trans (hx5 52)
        have e53 : x6 53 = .pointer (some ⟨sb, so + i * 4, none⟩) := (hl6.tail.tail.tail.tail.tail.tail.tail.tail.tail.head).trans (hx5 53)
        have e55 : x6 55 = .pointer (some ⟨oo, 0, none⟩) := (hl6.tail.tail.tail.tail.tail.tail.tail.tail.tail.tail.head).trans (hx5 55)
        have e57 : x6 57 = .slice (some ⟨bb, 0, none⟩) m m := (hl6.tail.tail.tail.tail.tail.tail.tail.tail.tail.tail.tail.head).trans (hx5 57)
        have e58 : x6 58 = .slice (some ⟨xb, 0, none⟩) m m := (hl6.tail.tail.tail.tail.tail.tail.tail.tail.tail.tail.tail.tail.head).trans (hx5 58)
        have e538 : x6 538 = .int .i64 (N : Nat) := (hl6.tail.tail.tail.tail.tail.tail.tail.tail.tail.tail.tail.tail.tail.head).trans (hx5 538)
        have e539 : x6 539 = .int .i64 (i : Nat) := (hl6.tail.tail.tail.tail.tail.tail.tail.tail.tail.tail.tail.tail.tail.tail.head).trans (hx5 539)
        have e659 : x6 659 = .int .i64 (m : Nat) := (hl6.tail.tail.tail.tail.tail.tail.tail.tail.tail.tail.tail.tail.tail.tail.tail.head).trans (hx5 659)
        rw [frame_lit, e0, e8, e9, e10, e11, e12, e13, e42, e52, e53, e55, e57, e58, e538, e539, e659]
        clear e0 e8 e9 e10 e11 e12 e13 e42 e52 e53 e55 e57 e58 e538 e539 e659 hl6 hx5
        clear crd3 hA3
        have hgw5 : w'.grownBy w5 none := (hgw3).trans hg5
        go_wp2
        refine wp_frame rfl (fun x7 hx7 => ?_)
        refine loop18 x7 w5 _ r0 N i tb sb (so + i * 4) bb m D G kf kl rk ob cg E H S (hx7 12) (hx7 13) (hx7 42) (hx7 52) (hx7 53) (hx7 676) (hx7 677) (hx7 678) (HC.out.grown hgw5) hlt (HO'.out.below (below_of_grown hgw5) (Nat.le_refl _)) Hbb.out Hm.out hmb ?_
        rintro x8 w6 hl8 hg6
        have e0 : x8 0 = .slice (some ⟨sb, so, none⟩) N cO := (hl8.head).trans (hx7 0)
        have e8 : x8 8 = .slice (some ⟨r0, 0, none⟩) N N := (hl8.tail.head).trans (hx7 8)
        have e9 : x8 9 = .slice (some ⟨r0 + 1, 0, none⟩) N N := (hl8.tail.tail.head).trans (hx7 9)
        have e10 : x8 10 = .map (some (r0 + 2)) := (hl8.tail.tail.tail.head).trans (hx7 10)
        have e11 : x8 11 = .slice (some ⟨r0 + 3, 0, none⟩) N N := (hl8.tail.tail.tail.tail.head).trans (hx7 11)
        have e12 : x8 12 = .slice (some ⟨r0 + 4, 0, none⟩) N N := (hl8.tail.tail.tail.tail.tail.head).trans (hx7 12)
        have e13 : x8 13 = .slice (some ⟨r0 + 5, 0, none⟩) N N := (hl8.tail.tail.tail.tail.tail.tail.head).trans (hx7 13)
        have e42 : x8 42 = .slice (some ⟨tb, 0, none⟩) N N := (hl8.tail.tail.tail.tail.tail.tail.tail.head).trans (hx7 42)
        have e52 : x8 52 = .int .i64 (i : Nat) := (hl8.tail.tail.tail.tail.tail.tail.tail.tail.head).trans (hx7 52)
        have e53 : x8 53 = .pointer (some ⟨sb, so + i * 4, none⟩) := (hl8.tail.tail.tail.tail.tail.tail.tail.tail.tail.head).trans (hx7 53)
        have e538 : x8 538 = .int .i64 (N : Nat) := (hl8.tail.tail.tail.tail.tail.tail.tail.tail.tail.tail.head).trans (hx7 538)
        have e539 : x8 539 = .int .i64 (i : Nat) := (hl8.tail.tail.tail.tail.tail.tail.tail.tail.tail.tail.tail.head).trans (hx7 539)
        have e676 : x8 676 = .slice (some ⟨bb, 0, none⟩) m m := (hl8.tail.tail.tail.tail.tail.tail.tail.tail.tail.tail.tail.tail.head).trans (hx7 676)
        have e677 : x8 677 = .int .i64 (m : Nat) := (hl8.tail.tail.tail.tail.tail.tail.tail.tail.tail.tail.tail.tail.tail.head).trans (hx7 677)
        rw [frame_lit, e0, e8, e9, e10, e11, e12, e13, e42, e52, e53, e538, e539, e676, e677]
        clear e0 e8 e9 e10 e11 e12 e13 e42 e52 e53 e538 e539 e676 e677 hl8 hx7
        have HGW : Hid (w.grownBy w6 none) := (hg.trans hgw5).trans hg6
        clear hg5 hgw5 hg6
        go_wp2
        refine ⟨end_frame rfl (fun y hy => ⟨i + 1, live_cons ((hy 0).trans H0.out.symm) (live_cons ((hy 8).trans H8.out.symm) (live_cons ((hy 9).trans H9.out.symm) (live_cons ((hy 10).trans H10.out.symm) (live_cons ((hy 11).trans H11.out.symm) (live_cons ((hy 12).trans H12.out.symm) (live_cons ((hy 13).trans H13.out.symm) (live_cons ((hy 42).trans H42.out.symm) (live_cons ((hy 538).trans H538.out.symm) (live_nil _))))))))), hy 539, by omega, HGW.out⟩), ?_⟩
        show N - (intOf (.int .i64 ((i : Int) + 1))).toNat < N - (intOf (.int .i64 (i : Int))).toNat
        simp [intOf]; omega
      | false =>
        simp only [cond_false] at hrds
        have HLs : Hid ((ob i).rds.length = m) := Hm.out
        have crd3 := (hgw2).cell crd (by simp)
        have hA3 := hrds.block ((hgw2).block _ hrds.lt (by simp))
        clear crd
        go_wp2
        refine wp_frame rfl (fun x5 hx5 => ?_)
        refine loop17 x5 wg _ oo xb pr m cr ((ob i).rds) (hx5 55) (hx5 58) (hx5 659) (hx5 660) HLs.out hmb crd3 hA3 hX ?_
        rintro x6 w5 hl6 hg5
        have e0 : x6 0 = .slice (some ⟨sb, so, none⟩) N cO := (hl6.head).trans (hx5 0)
        have e8 : x6 8 = .slice (some ⟨r0, 0, none⟩) N N := (hl6.tail.head).trans (hx5 8)
        have e9 : x6 9 = .slice (some ⟨r0 + 1, 0, none⟩) N N := (hl6.tail.tail.head).trans (hx5 9)
        have e10 : x6 10 = .map (some (r0 + 2)) := (hl6.tail.tail.tail.head).trans (hx5 10)
        have e11 : x6 11 = .slice (some ⟨r0 + 3, 0, none⟩) N N := (hl6.tail.tail.tail.tail.head).trans (hx5 11)
        have e12 : x6 12 = .slice (some ⟨r0 + 4, 0, none⟩) N N := (hl6.tail.tail.tail.tail.tail.head).trans (hx5 12)
        have e13 : x6 13 = .slice (some ⟨r0 + 5, 0, none⟩) N N := (hl6.tail.tail.tail.tail.tail.tail.head).trans (hx5 13)
        have e42 : x6 42 = .slice (some ⟨tb, 0, none⟩) N N := (hl6.tail.tail.tail.tail.tail.tail.tail.head).trans (hx5 42)
        have e52 : x6 52 = .int .i64 (i : Nat) := (hl6.tail.tail.tail.tail.tail.tail.tail.tail.head).trans (hx5 52)
        have e53 : x6 53 = .pointer (some ⟨sb, so + i * 4, none⟩) := (hl6.tail.tail.tail.tail.tail.tail.tail.tail.tail.head).trans (hx5 53)
        have e55 : x6 55 = .pointer (some ⟨oo, 0, none⟩) := (hl6.tail.tail.tail.tail.tail.tail.tail.tail.tail.tail.head).trans (hx5 55)
        have e57 : x6 57 = .slice (some ⟨bb, 0, none⟩) m m := (hl6.tail.tail.tail.tail.tail.tail.tail.tail.tail.tail.tail.head).trans (hx5 57)
        have e58 : x6 58 = .slice (some ⟨xb, 0, none⟩) m m := (hl6.tail.tail.tail.tail.tail.tail.tail.tail.tail.tail.tail.tail.head).trans (hx5 58)
        have e538 : x6 538 = .int .i64 (N : Nat) := (hl6.tail.tail.tail.tail.tail.tail.tail.tail.tail.tail.tail.tail.tail.head).trans (hx5 538)
        have e539 : x6 539 = .int .i64 (i : Nat) := (hl6.tail.tail.tail.tail.tail.tail.tail.tail.tail.tail.tail.tail.tail.tail.head).trans (hx5 539)
        have e659 : x6 659 = .int .i64 (m : Nat) := (hl6.tail.tail.tail.tail.tail.tail.tail.tail.tail.tail.tail.tail.tail.tail.tail.head).trans (hx5 659)
        rw [frame_lit, e0, e8, e9, e10, e11, e12, e13, e42, e52, e53, e55, e57, e58, e538, e539, e659]
        clear e0 e8 e9 e10 e11 e12 e13 e42 e52 e53 e55 e57 e58 e538 e539 e659 hl6 hx5
        clear crd3 hA3
        have hgw5 : w'.grownBy w5 none := (hgw2).trans hg5
        go_wp2
        refine wp_frame rfl (fun x7 hx7 => ?_)
        refine loop18 x7 w5 _ r0 N i tb sb (so + i * 4) bb m D G kf kl rk ob cg E H S (hx7 12) (hx7 13) (hx7 42) (hx7 52) (hx7 53) (hx7 676) (hx7 677) (hx7 678) (HC.out.grown hgw5) hlt (HO'.out.below (below_of_grown hgw5) (Nat.le_refl _)) Hbb.out Hm.out hmb ?_
        rintro x8 w6 hl8 hg6
        have e0 : x8 0 = .slice (some ⟨sb, so, none⟩) N cO := (hl8.head).trans (hx7 0)
        have e8 : x8 8 = .slice (some ⟨r0, 0, none⟩) N N := (hl8.tail.head).trans (hx7 8)
        have e9 : x8 9 = .slice (some ⟨r0 + 1, 0, none⟩) N N := (hl8.tail.tail.head).trans (hx7 9)
        have e10 : x8 10 = .map (some (r0 + 2)) := (hl8.tail.tail.tail.head).trans (hx7 10)
        have e11 : x8 11 = .slice (some ⟨r0 + 3, 0, none⟩) N N := (hl8.tail.tail.tail.tail.head).trans (hx7 11)
        have e12 : x8 12 = .slice (some ⟨r0 + 4, 0, none⟩) N N := (hl8.tail.tail.tail.tail.tail.head).trans (hx7 12)
        have e13 : x8 13 = .slice (some ⟨r0 + 5, 0, none⟩) N N := (hl8.tail.tail.tail.tail.tail.tail.head).trans (hx7 13)
        have e42 : x8 42 = .slice (some ⟨tb, 0, none⟩) N N := (hl8.tail.tail.tail.tail.tail.tail.tail.head).trans (hx7 42)
        have e52 : x8 52 = .int .i64 (i : Nat) := (hl8.tail.tail.tail.tail.tail.tail.tail.tail.head).trans (hx7 52)
        have e53 : x8 53 = .pointer (some ⟨sb, so + i * 4, none⟩) := (hl8.tail.tail.tail.tail.tail.tail.tail.tail.tail.head).trans (hx7 53)
        have e538 : x8 538 = .int .i64 (N : Nat) := (hl8.tail.tail.tail.tail.tail.tail.tail.tail.tail.tail.head).trans (hx7 538)
        have e539 : x8 539 = .int .i64 (i : Nat) := (hl8.tail.tail.tail.tail.tail.tail.tail.tail.tail.tail.tail.head).trans (hx7 539)
        have e676 : x8 676 = .slice (some ⟨bb, 0, none⟩) m m := (hl8.tail.tail.tail.tail.tail.tail.tail.tail.tail.tail.tail.tail.head).trans (hx7 676)
        have e677 : x8 677 = .int .i64 (m : Nat) := (hl8.tail.tail.tail.tail.tail.tail.tail.tail.tail.tail.tail.tail.tail.head).trans (hx7 677)
        rw [frame_lit, e0, e8, e9, e10, e11, e12, e13, e42, e52, e53, e538, e539, e676, e677]
        clear e0 e8 e9 e10 e11 e12 e13 e42 e52 e53 e538 e539 e676 e677 hl8 hx7
        have HGW : Hid (w.grownBy w6 none) := (hg.trans hgw5).trans hg6
        clear hg5 hgw5 hg6
        go_wp2
        refine ⟨end_frame rfl (fun y hy => ⟨i + 1, live_cons ((hy 0).trans H0.out.symm) (live_cons ((hy 8).trans H8.out.symm) (live_cons ((hy 9).trans H9.out.symm) (live_cons ((hy 10).trans H10.out.symm) (live_cons ((hy 11).trans H11.out.symm) (live_cons ((hy 12).trans H12.out.symm) (live_cons ((hy 13).trans H13.out.symm) (live_cons ((hy 42).trans H42.out.symm) (live_cons ((hy 538).trans H538.out.symm) (live_nil _))))))))), hy 539, by omega, HGW.out⟩), ?_⟩
        show N - (intOf (.int .i64 ((i : Int) + 1))).toNat < N - (intOf (.int .i64 (i : Int))).toNat
        simp [intOf]; omega
    | false =>
      rw [hp] at c0
      clear hL
      go_upto_region 136 with fail
      go_quiet (fail)
      go_wp2
      obtain ⟨wP, hwP⟩ : ∃ wP, wP = w'.drewN nq := ⟨_, rfl⟩
      have hgP : w'.grownBy wP none := by rw [hwP]; exact grown_drewN _ _ _
      rw [← hwP]
      clear hwP
      refine wp_frame rfl (fun x1 hx => ?_)
      refine loop14 x1 wP _ sb (so + i * 4) oo pu n (D i) (hx 53) (hx 54) (hx 55) (hx 56) hn8 (HO'.out.below (below_of_grown hgP) (Nat.le_refl _)) (hgP.cell cup (by simp)) (fun q hq => by obtain ⟨A, C, h⟩ := Hup.out q hq; exact ⟨A, C, hgP.cell h (by simp)⟩) ?_
      rintro x2 w1 hl2 hg1
      have e0 : x2 0 = .slice (some ⟨sb, so, none⟩) N cO := (hl2.head).trans (hx 0)
      have e8 : x2 8 = .slice (some ⟨r0, 0, none⟩) N N := (hl2.tail.head).trans (hx 8)
      have e9 : x2 9 = .slice (some ⟨r0 + 1, 0, none⟩) N N := (hl2.tail.tail.head).trans (hx 9)
      have e10 : x2 10 = .map (some (r0 + 2)) := (hl2.tail.tail.tail.head).trans (hx 10)
      have e11 : x2 11 = .slice (some ⟨r0 + 3, 0, none⟩) N N := (hl2.tail.tail.tail.tail.head).trans (hx 11)
      have e12 : x2 12 = .slice (some ⟨r0 + 4, 0, none⟩) N N := (hl2.tail.tail.tail.tail.tail.head).trans (hx 12)
      have e13 : x2 13 = .slice (some ⟨r0 + 5, 0, none⟩) N N := (hl2.tail.tail.tail.tail.tail.tail.head).trans (hx 13)
      have e42 : x2 42 = .slice (some ⟨tb, 0, none⟩) N N := (hl2.tail.tail.tail.tail.tail.tail.tail.head).trans (hx 42)
      have e52 : x2 52 = .int .i64 (i : Nat) := (hl2.tail.tail.tail.tail.tail.tail.tail.tail.head).trans (hx 52)
      have e53 : x2 53 = .pointer (some ⟨sb, so + i * 4, none⟩) := (hl2.tail.tail.tail.tail.tail.tail.tail.tail.tail.head).trans (hx 53)
      have e54 : x2 54 = .int .i64 (n : Nat) := (hl2.tail.tail.tail.tail.tail.tail.tail.tail.tail.tail.head).trans (hx 54)
      have e55 : x2 55 = .pointer (some ⟨oo, 0, none⟩) := (hl2.tail.tail.tail.tail.tail.tail.tail.tail.tail.tail.tail.head).trans (hx 55)
      have e538 : x2 538 = .int .i64 (N : Nat) := (hl2.tail.tail.tail.tail.tail.tail.tail.tail.tail.tail.tail.tail.head).trans (hx 538)
      have e539 : x2 539 = .int .i64 (i : Nat) := (hl2.tail.tail.tail.tail.tail.tail.tail.tail.tail.tail.tail.tail.tail.head).trans (hx 539)
      rw [frame_lit, e0, e8, e9, e10, e11, e12, e13, e42, e52, e53, e54, e55, e538, e539]
      clear e0 e8 e9 e10 e11 e12 e13 e42 e52 e53 e54 e55 e538 e539 hl2 hx
      have hgw1 : w'.grownBy w1 none := hgP.trans hg1
      have c111 := hgw1.cell c11 (by simp)
      have hbw : PRow w1 bb (ob i).rds := ⟨[], by rw [hgw1.block bb (lt_of_block hbr) (by simp), hbr, List.append_nil]⟩
      clear hgP hg1 c0 c1 c8 c9 c11 coo cup hq66
      have hmk := run_make_row' (P := Yba.prog) 45 47 (.pointer none) 8 Yba.underlying45 info47 rfl .i64 .i64 m (by omega) (by omega)
      go_upto_region 148 with fail
      obtain ⟨wf, hwf⟩ : ∃ wf, wf = w1.alloc (.cells (madeCells #[Value.pointer none] m) 47) := ⟨_, rfl⟩
      have hgf : w1.grownBy wf none := by rw [hwf]; exact World.grownBy_alloc _ _ _
      have hcp := fun ty => copy_reads w1 wf ty bb m m (ob i).rds hwf hbw Hm.out
      have hrf : wf.heap[w1.heap.size]? = some (.cells (madeCells #[Value.pointer none] m) 47 (0, 0)) := by rw [hwf]; exact alloc_last _ _
      rw [← hwf]
      clear hwf hmk hbw c111
      obtain ⟨xb, hxb⟩ : ∃ xb, xb = w1.heap.size := ⟨_, rfl⟩
      have Hxb : Hid (w'.heap.size ≤ xb) := by show w'.heap.size ≤ xb; rw [hxb]; exact hgw1.size
      rw [← hxb] at hcp hrf ⊢
      clear hxb
      go_upto_region 149 with fail
      obtain ⟨wg, hwg⟩ : ∃ wg, wg = wf.setRow xb ((ob i).rds.map ptr).toArray := ⟨_, rfl⟩
      have hX : PRow wg xb (ob i).rds := ⟨[], by rw [hwg, setRow_heap wf xb _ _ 47 (0, 0) hrf, List.append_nil]⟩
      have hgg : wf.grownBy wg (some xb) := by rw [hwg]; exact grown_setRow _ _ _
      rw [← hwg]
      clear hwg hcp hrf
      have hgw2 : w'.grownBy wg none := grown_then (hgw1.trans hgf) hgg (fun q hq => by cases hq; left; exact Hxb.out)
      have ct2 := hgw2.cell ct (by simp)
      clear ct hgf hgg hgw1
      cases b with
      | true =>
        have hKy : ∀ d ∈ (ob i).rds, KeyG wg xb d (kf d) (kl d) := fun d hd => HC.out.keyG hlt d hd hgw2 Hxb.out
        simp only [cond_true] at hrds
        go_wp2
        refine wp_frame rfl (fun x3 hx3 => ?_)
        refine loop15 x3 wg _ xb m kf kl (ob i).rds (hx3 58) (hx3 59) Hm.out hmb hX hKy ?_
        rintro x4 w3 hl4 hg3 hX3
        have e0 : x4 0 = .slice (some ⟨sb, so, none⟩) N cO := (hl4.head).trans (hx3 0)
        have e8 : x4 8 = .slice (some ⟨r0, 0, none⟩) N N := (hl4.tail.head).trans (hx3 8)
        have e9 : x4 9 = .slice (some ⟨r0 + 1, 0, none⟩) N N := (hl4.tail.tail.head).trans (hx3 9)
        have e10 : x4 10 = .map (some (r0 + 2)) := (hl4.tail.tail.tail.head).trans (hx3 10)
        have e11 : x4 11 = .slice (some ⟨r0 + 3, 0, none⟩) N N := (hl4.tail.tail.tail.tail.head).trans (hx3 11)
        have e12 : x4 12 = .slice (some ⟨r0 + 4, 0, none⟩) N N := (hl4.tail.tail.tail.tail.tail.head).trans (hx3 12)
        have e13 : x4 13 = .slice (some ⟨r0 + 5, 0, none⟩) N N := (hl4.tail.tail.tail.tail.tail.tail.head).trans (hx3 13)
        have e42 : x4 42 = .slice (some ⟨tb, 0, none⟩) N N := (hl4.tail.tail.tail.tail.tail.tail.tail.head).trans (hx3 42)
        have e52 : x4 52 = .int .i64 (i : Nat) := (hl4.tail.tail.tail.tail.tail.tail.tail.tail.head).trans (hx3 52)
        have e53 : x4 53 = .pointer (some ⟨sb, so + i * 4, none⟩) := (hl4.tail.tail.tail.tail.tail.tail.tail.tail.tail.head).trans (hx3 53)
        have e55 : x4 55 = .pointer (some ⟨oo, 0, none⟩) := (hl4.tail.tail.tail.tail.tail.tail.tail.tail.tail.tail.head).trans (hx3 55)
        have e57 : x4 57 = .slice (some ⟨bb, 0, none⟩) m m := (hl4.tail.tail.tail.tail.tail.tail.tail.tail.tail.tail.tail.head).trans (hx3 57)
        have e58 : x4 58 = .slice (some ⟨xb, 0, none⟩) m m := (hl4.tail.tail.tail.tail.tail.tail.tail.tail.tail.tail.tail.tail.head).trans (hx3 58)
        have e538 : x4 538 = .int .i64 (N : Nat) := (hl4.tail.tail.tail.tail.tail.tail.tail.tail.tail.tail.tail.tail.tail.head).trans (hx3 538)
        have e539 : x4 539 = .int .i64 (i : Nat) := (hl4.tail.tail.tail.tail.tail.tail.tail.tail.tail.tail.tail.tail.tail.tail.head).trans (hx3 539)
        rw [frame_lit, e0, e8, e9, e10, e11, e12, e13, e42, e52, e53, e55, e57, e58, e538, e539]
        clear e0 e8 e9 e10 e11 e12 e13 e42 e52 e53 e55 e57 e58 e538 e539 hl4 hx3
        have hgw3 : w'.grownBy w3 none := grown_then hgw2 hg3 (fun q hq => by cases hq; left; exact Hxb.out)
        have HLs : Hid ((isort (ltd kf kl) (ob i).rds).length = m) := by show _ = m; rw [isort_length]; exact Hm.out
        clear hX hKy ct2 hg3 hgw2
        have crd3 := (hgw3).cell crd (by simp)
        have hA3 := hrds.block ((hgw3).block _ hrds.lt (by simp))
        clear crd
        go_wp2
        refine wp_frame rfl (fun x5 hx5 => ?_)
        refine loop17 x5 w3 _ oo xb pr m cr (isort (ltd kf kl) (ob i).rds) (hx5 55) (hx5 58) (hx5 659) (hx5 660) HLs.out hmb crd3 hA3 hX3 ?_
        rintro x6 w5 hl6 hg5
        have e0 : x6 0 = .slice (some ⟨sb, so, none⟩) N cO := (hl6.head).trans (hx5 0)
        have e8 : x6 8 = .slice (some ⟨r0, 0, none⟩) N N := (hl6.tail.head).trans (hx5 8)
        have e9 : x6 9 = .slice (some ⟨r0 + 1, 0, none⟩) N N := (hl6.tail.tail.head).trans (hx5 9)
        have e10 : x6 10 = .map (some (r0 + 2)) := (hl6.tail.tail.tail.head).trans (hx5 10)
        have e11 : x6 11 = .slice (some ⟨r0 + 3, 0, none⟩) N N := (hl6.tail.tail.tail.tail.head).trans (hx5 11)
        have e12 : x6 12 = .slice (some ⟨r0 + 4, 0, none⟩) N N := (hl6.tail.tail.tail.tail.tail.head).trans (hx5 12)
        have e13 : x6 13 = .slice (some ⟨r0 + 5, 0, none⟩) N N := (hl6.tail.tail.tail.tail.tail.tail.head).trans (hx5 13)
        have e42 : x6 42 = .slice (some ⟨tb, 0, none⟩) N N := (hl6.tail.tail.tail.tail.tail.tail.tail.head).trans (hx5 42)
        have e52 : x6 52 = .int .i64 (i : Nat) := (hl6.tail.tail.tail.tail.tail.tail.tail.tail.head).trans (hx5 52)
        have e53 : x6 53 = .pointer (some ⟨sb, so + i * 4, none⟩) := (hl6.tail.tail.tail.tail.tail.tail.tail.tail.tail.head).trans (hx5 53)
        have e55 : x6 55 = .pointer (some ⟨oo, 0, none⟩) := (hl6.tail.tail.tail.tail.tail.tail.tail.tail.tail.tail.head).trans (hx5 55)
        have e57 : x6 57 = .slice (some ⟨bb, 0, none⟩) m m := (hl6.tail.tail.tail.tail.tail.tail.tail.tail.tail.tail.tail.head).trans (hx5 57)
        have e58 : x6 58 = .slice (some ⟨xb, 0, none⟩) m m := (hl6.tail.tail.tail.tail.tail.tail.tail.tail.tail.tail.tail.tail.head).trans (hx5 58)
        have e538 : x6 538 = .int .i64 (N : Nat) := (hl6.tail.tail.tail.tail.tail.tail.tail.tail.tail.tail.tail.tail.tail.head).trans (hx5 538)
        have e539 : x6 539 = .int .i64 (i : Nat) := (hl6.tail.tail.tail.tail.tail.tail.tail.tail.tail.tail.tail.tail.tail.tail.head).trans (hx5 539)
        have e659 : x6 659 = .int .i64 (m : Nat) := (hl6.tail.tail.tail.tail.tail.tail.tail.tail.tail.tail.tail.tail.tail.tail.tail.head).trans (hx5 659)
        rw [frame_lit, e0, e8, e9, e10, e11, e12, e13, e42, e52, e53, e55, e57, e58, e538, e539, e659]
        clear e0 e8 e9 e10 e11 e12 e13 e42 e52 e53 e55 e57 e58 e538 e539 e659 hl6 hx5
        clear crd3 hA3
        have hgw5 : w'.grownBy w5 none := (hgw3).trans hg5
        go_wp2
        refine wp_frame rfl (fun x7 hx7 => ?_)
        refine loop18 x7 w5 _ r0 N i tb sb (so + i * 4) bb m D G kf kl rk ob cg E H S (hx7 12) (hx7 13) (hx7 42) (hx7 52) (hx7 53) (hx7 676) (hx7 677) (hx7 678) (HC.out.grown hgw5) hlt (HO'.out.below (below_of_grown hgw5) (Nat.le_refl _)) Hbb.out Hm.out hmb ?_
        rintro x8 w6 hl8 hg6
        have e0 : x8 0 = .slice (some ⟨sb, so, none⟩) N cO := (hl8.head).trans (hx7 0)
        have e8 : x8 8 = .slice (some ⟨r0, 0, none⟩) N N := (hl8.tail.head).trans (hx7 8)
        have e9 : x8 9 = .slice (some ⟨r0 + 1, 0, none⟩) N N := (hl8.tail.tail.head).trans (hx7 9)
        have e10 : x8 10 = .map (some (r0 + 2)) := (hl8.tail.tail.tail.head).trans (hx7 10)
        have e11 : x8 11 = .slice (some ⟨r0 + 3, 0, none⟩) N N := (hl8.tail.tail.tail.tail.head).trans (hx7 11)
        have e12 : x8 12 = .slice (some ⟨r0 + 4, 0, none⟩) N N := (hl8.tail.tail.tail.tail.tail.head).trans (hx7 12)
        have e13 : x8 13 = .slice (some ⟨r0 + 5, 0, none⟩) N N := (hl8.tail.tail.tail.tail.tail.tail.head).trans (hx7 13)
        have e42 : x8 42 = .slice (some ⟨tb, 0, none⟩) N N := (hl8.tail.tail.tail.tail.tail.tail.tail.head).trans (hx7 42)
        have e52 : x8 52 = .int .i64 (i : Nat) := (hl8.tail.tail.tail.tail.tail.tail.tail.tail.head).trans (hx7 52)
        have e53 : x8 53 = .pointer (some ⟨sb, so + i * 4, none⟩) := (hl8.tail.tail.tail.tail.tail.tail.tail.tail.tail.head).trans (hx7 53)
        have e538 : x8 538 = .int .i64 (N : Nat) := (hl8.tail.tail.tail.tail.tail.tail.tail.tail.tail.tail.head).trans (hx7 538)
        have e539 : x8 539 = .int .i64 (i : Nat) := (hl8.tail.tail.tail.tail.tail.tail.tail.tail.tail.tail.tail.head).trans (hx7 539)
        have e676 : x8 676 = .slice (some ⟨bb, 0, none⟩) m m := (hl8.tail.tail.tail.tail.tail.tail.tail.tail.tail.tail.tail.tail.head).trans (hx7 676)
        have e677 : x8 677 = .int .i64 (m : Nat) := (hl8.tail.tail.tail.tail.tail.tail.tail.tail.tail.tail.tail.tail.tail.head).trans (hx7 677)
        rw [frame_lit, e0, e8, e9, e10, e11, e12, e13, e42, e52, e53, e538, e539, e676, e677]
        clear e0 e8 e9 e10 e11 e12 e13 e42 e52 e53 e538 e539 e676 e677 hl8 hx7
        have HGW : Hid (w.grownBy w6 none) := (hg.trans hgw5).trans hg6
        clear hg5 hgw5 hg6
        go_wp2
        refine ⟨end_frame rfl (fun y hy => ⟨i + 1, live_cons ((hy 0).trans H0.out.symm) (live_cons ((hy 8).trans H8.out.symm) (live_cons ((hy 9).trans H9.out.symm) (live_cons ((hy 10).trans H10.out.symm) (live_cons ((hy 11).trans H11.out.symm) (live_cons ((hy 12).trans H12.out.symm) (live_cons ((hy 13).trans H13.out.symm) (live_cons ((hy 42).trans H42.out.symm) (live_cons ((hy 538).trans H538.out.symm) (live_nil _))))))))), hy 539, by omega, HGW.out⟩), ?_⟩
        show N - (intOf (.int .i64 ((i : Int) + 1))).toNat < N - (intOf (.int .i64 (i : Int))).toNat
        simp [intOf]; omega
      | false =>
        simp only [cond_false] at hrds
        have HLs : Hid ((ob i).rds.length = m) := Hm.out
        have crd3 := (hgw2).cell crd (by simp)
        have hA3 := hrds.block ((hgw2).block _ hrds.lt (by simp))
        clear crd
        go_wp2
        refine wp_frame rfl (fun x5 hx5 => ?_)
        refine loop17 x5 wg _ oo xb pr m cr ((ob i).rds) (hx5 55) (hx5 58) (hx5 659) (hx5 660) HLs.out hmb crd3 hA3 hX ?_
        rintro x6 w5 hl6 hg5
        have e0 : x6 0 = .slice (some ⟨sb, so, none⟩) N cO := (hl6.head).trans (hx5 0)
        have e8 : x6 8 = .slice (some ⟨r0, 0, none⟩) N N := (hl6.tail.head).trans (hx5 8)
        have e9 : x6 9 = .slice (some ⟨r0 + 1, 0, none⟩) N N := (hl6.tail.tail.head).trans (hx5 9)
        have e10 : x6 10 = .map (some (r0 + 2)) := (hl6.tail.tail.tail.head).trans (hx5 10)
        have e11 : x6 11 = .slice (some ⟨r0 + 3, 0, none⟩) N N := (hl6.tail.tail.tail.tail.head).trans (hx5 11)
        have e12 : x6 12 = .slice (some ⟨r0 + 4, 0, none⟩) N N := (hl6.tail.tail.tail.tail.tail.head).trans (hx5 12)
        have e13 : x6 13 = .slice (some ⟨r0 + 5, 0, none⟩) N N := (hl6.tail.tail.tail.tail.tail.tail.head).trans (hx5 13)
        have e42 : x6 42 = .slice (some ⟨tb, 0, none⟩) N N := (hl6.tail.tail.tail.tail.tail.tail.tail.head).trans (hx5 42)
        have e52 : x6 52 = .int .i64 (i : Nat) := (hl6.tail.tail.tail.tail.tail.tail.tail.tail.head).trans (hx5 52)
        have e53 : x6 53 = .pointer (some ⟨sb, so + i * 4, none⟩) := (hl6.tail.tail.tail.tail.tail.tail.tail.tail.tail.head).trans (hx5 53)
        have e55 : x6 55 = .pointer (some ⟨oo, 0, none⟩) := (hl6.tail.tail.tail.tail.tail.tail.tail.tail.tail.tail.head).trans (hx5 55)
        have e57 : x6 57 = .slice (some ⟨bb, 0, none⟩) m m := (hl6.tail.tail.tail.tail.tail.tail.tail.tail.tail.tail.tail.head).trans (hx5 57)
        have e58 : x6 58 = .slice (some ⟨xb, 0, none⟩) m m := (hl6.tail.tail.tail.tail.tail.tail.tail.tail.tail.tail.tail.tail.head).trans (hx5 58)
        have e538 : x6 538 = .int .i64 (N : Nat) := (hl6.tail.tail.tail.tail.tail.tail.tail.tail.tail.tail.tail.tail.tail.head).trans (hx5 538)
        have e539 : x6 539 = .int .i64 (i : Nat) := (hl6.tail.tail.tail.tail.tail.tail.tail.tail.tail.tail.tail.tail.tail.tail.head).trans (hx5 539)
        have e659 : x6 659 = .int .i64 (m : Nat) := (hl6.tail.tail.tail.tail.tail.tail.tail.tail.tail.tail.tail.tail.tail.tail.tail.head).trans (hx5 659)
        rw [frame_lit, e0, e8, e9, e10, e11, e12, e13, e42, e52, e53, e55, e57, e58, e538, e539, e659]
        clear e0 e8 e9 e10 e11 e12 e13 e42 e52 e53 e55 e57 e58 e538 e539 e659 hl6 hx5
        clear crd3 hA3
        have hgw5 : w'.grownBy w5 none := (hgw2).trans hg5
        go_wp2
        refine wp_frame rfl (fun x7 hx7 => ?_)
        refine loop18 x7 w5 _ r0 N i tb sb (so + i * 4) bb m D G kf kl rk ob cg E H S (hx7 12) (hx7 13) (hx7 42) (hx7 52) (hx7 53) (hx7 676) (hx7 677) (hx7 678) (HC.out.grown hgw5) hlt (HO'.out.below (below_of_grown hgw5) (Nat.le_refl _)) Hbb.out Hm.out hmb ?_
        rintro x8 w6 hl8 hg6
        have e0 : x8 0 = .slice (some ⟨sb, so, none⟩) N cO := (hl8.head).trans (hx7 0)
        have e8 : x8 8 = .slice (some ⟨r0, 0, none⟩) N N := (hl8.tail.head).trans (hx7 8)
        have e9 : x8 9 = .slice (some ⟨r0 + 1, 0, none⟩) N N := (hl8.tail.tail.head).trans (hx7 9)
        have e10 : x8 10 = .map (some (r0 + 2)) := (hl8.tail.tail.tail.head).trans (hx7 10)
        have e11 : x8 11 = .slice (some ⟨r0 + 3, 0, none⟩) N N := (hl8.tail.tail.tail.tail.head).trans (hx7 11)
        have e12 : x8 12 = .slice (some ⟨r0 + 4, 0, none⟩) N N := (hl8.tail.tail.tail.tail.tail.head).trans (hx7 12)
        have e13 : x8 13 = .slice (some ⟨r0 + 5, 0, none⟩) N N := (hl8.tail.tail.tail.tail.tail.tail.head).trans (hx7 13)
        have e42 : x8 42 = .slice (some ⟨tb, 0, none⟩) N N := (hl8.tail.tail.tail.tail.tail.tail.tail.head).trans (hx7 42)
        have e52 : x8 52 = .int .i64 (i : Nat) := (hl8.tail.tail.tail.tail.tail.tail.tail.tail.head).trans (hx7 52)
        have e53 : x8 53 = .pointer (some ⟨sb, so + i * 4, none⟩) := (hl8.tail.tail.tail.tail.tail.tail.tail.tail.tail.head).trans (hx7 53)
        have e538 : x8 538 = .int .i64 (N : Nat) := (hl8.tail.tail.tail.tail.tail.tail.tail.tail.tail.tail.head).trans (hx7 538)
        have e539 : x8 539 = .int .i64 (i : Nat) := (hl8.tail.tail.tail.tail.tail.tail.tail.tail.tail.tail.tail.head).trans (hx7 539)
        have e676 : x8 676 = .slice (some ⟨bb, 0, none⟩) m m := (hl8.tail.tail.tail.tail.tail.tail.tail.tail.tail.tail.tail.tail.head).trans (hx7 676)
        have e677 : x8 677 = .int .i64 (m : Nat) := (hl8.tail.tail.tail.tail.tail.tail.tail.tail.tail.tail.tail.tail.tail.head).trans (hx7 677)
        rw [frame_lit, e0, e8, e9, e10, e11, e12, e13, e42, e52, e53, e538, e539, e676, e677]
        clear e0 e8 e9 e10 e11 e12 e13 e42 e52 e53 e538 e539 e676 e677 hl8 hx7
        have HGW : Hid (w.grownBy w6 none) := (hg.trans hgw5).trans hg6
        clear hg5 hgw5 hg6
        go_wp2
        refine ⟨end_frame rfl (fun y hy => ⟨i + 1, live_cons ((hy 0).trans H0.out.symm) (live_cons ((hy 8).trans H8.out.symm) (live_cons ((hy 9).trans H9.out.symm) (live_cons ((hy 10).trans H10.out.symm) (live_cons ((hy 11).trans H11.out.symm) (live_cons ((hy 12).trans H12.out.symm) (live_cons ((hy 13).trans H13.out.symm) (live_cons ((hy 42).trans H42.out.symm) (live_cons ((hy 538).trans H538.out.symm) (live_nil _))))))))), hy 539, by omega, HGW.out⟩), ?_⟩
        show N - (intOf (.int .i64 ((i : Int) + 1))).toNat < N - (intOf (.int .i64 (i : Int))).toNat
        simp [intOf]; omega
  · have hd : decide ((i : Int) < (N : Int)) = false := by simp; omega
    have hd2 : decide (i < N) = false := by simp; omega
    obtain rfl : i = N := by omega
    go_wp2
    refine at_frame (Q := fun a w => Q _ a w) rfl (fun y hy => ?_)
    exact hexit y _ hg
end Go.Proofs.Ybulkeidm
