/-
  LawS6720BWhole: the reads of one object, each.
-/
import Derived.Test.YbulkeidmL20
import Derived.Test.YbulkeidmL19
import Derived.Test.YbulkeidmL22
namespace Go.Proofs.Ybulkeidm
open Go.RowKit

set_option maxHeartbeats 4000000 in
set_option maxRecDepth 100000 in
theorem loop18 (x : Nat → Value) (w : World) (Q : Exit → Act → World → Prop) (r0 N i tb sb so bb m : Nat) (D : Nat → ObIn) (G : Nat → Option Gh) (kf kl : Nat → Int) (rk : Nat → RK) (ob : Nat → OG) (cg : Nat → CG) (E : List (Nat × Nat)) (H : List Nat) (S : Nat → Bool) (h12 : x 12 = .slice (some ⟨r0 + 4, 0, none⟩) N N) (h13 : x 13 = .slice (some ⟨r0 + 5, 0, none⟩) N N) (h42 : x 42 = .slice (some ⟨tb, 0, none⟩) N N) (h52 : x 52 = .int .i64 (i : Nat)) (h53 : x 53 = .pointer (some ⟨sb, so, none⟩)) (h676 : x 676 = .slice (some ⟨bb, 0, none⟩) m m) (h677 : x 677 = .int .i64 (m : Nat)) (h678 : x 678 = .int .i64 0)
    (hCk : Chk D r0 N G kf kl rk ob cg E H S tb w) (hi : i < N) (hO : ObAt w sb so (D i)) (hbb : (cg i).br = bb) (hm : (ob i).rds.length = m) (hmb : m ≤ 1954687338268)
    (hexit : ∀ x' w', Live [(0, x 0), (8, x 8), (9, x 9), (10, x 10), (11, x 11), (12, x 12), (13, x 13), (42, x 42), (52, x 52), (53, x 53), (538, x 538), (539, x 539), (676, x 676), (677, x 677)] x' → w.grownBy w' none → Q (.exit 34) ⟨frame x', []⟩ w') :
    Code.wp Yba.prog (.loop (loopAt Yba.f3 17)) Q ⟨frame x, []⟩ w := by
  refine wp_loop (fun a w' => ∃ (x' : Nat → Value), a = ⟨frame x', []⟩ ∧ ∃ (j : Nat), Live [(0, x 0), (8, x 8), (9, x 9), (10, x 10), (11, x 11), (12, x 12), (13, x 13), (42, x 42), (52, x 52), (53, x 53), (538, x 538), (539, x 539), (676, x 676), (677, x 677)] x' ∧ x' 678 = .int .i64 (j : Nat) ∧ j ≤ m ∧ w.grownBy w' none) (fun a _ => m - (intOf (a.tmps.getD 678 (.bool false))).toNat) ⟨x, rfl, 0, live_cons (rfl) (live_cons (rfl) (live_cons (rfl) (live_cons (rfl) (live_cons (rfl) (live_cons (rfl) (live_cons (rfl) (live_cons (rfl) (live_cons (rfl) (live_cons (rfl) (live_cons (rfl) (live_cons (rfl) (live_cons (rfl) (live_cons (rfl) (live_nil _)))))))))))))), h678, by omega, World.grownBy.refl _ _⟩ ?_
  rintro a w' ⟨x', rfl, j, hl, o678, hj, hg⟩
  have e0 := hl.head
  have e8 := hl.tail.head
  have e9 := hl.tail.tail.head
  have e10 := hl.tail.tail.tail.head
  have e11 := hl.tail.tail.tail.tail.head
  have e12 := (hl.tail.tail.tail.tail.tail.head).trans h12
  have e13 := (hl.tail.tail.tail.tail.tail.tail.head).trans h13
  have e42 := (hl.tail.tail.tail.tail.tail.tail.tail.head).trans h42
  have e52 := (hl.tail.tail.tail.tail.tail.tail.tail.tail.head).trans h52
  have e53 := (hl.tail.tail.tail.tail.tail.tail.tail.tail.tail.head).trans h53
  have e538 := hl.tail.tail.tail.tail.tail.tail.tail.tail.tail.tail.head
  have e539 := hl.tail.tail.tail.tail.tail.tail.tail.tail.tail.tail.tail.head
  have e676 := (hl.tail.tail.tail.tail.tail.tail.tail.tail.tail.tail.tail.tail.head).trans h676
  have e677 := (hl.tail.tail.tail.tail.tail.tail.tail.tail.tail.tail.tail.tail.tail.head).trans h677
  rw [frame_lit, e0, e8, e9, e10, e11, e12, e13, e42, e52, e53, e538, e539, e676, e677, o678]
  clear e0 e8 e9 e10 e11 e12 e13 e42 e52 e53 e538 e539 e676 e677 hl o678
  conv => arg 2; whnf
  have H12 : Hid (x 12 = .slice (some ⟨r0 + 4, 0, none⟩) N N) := h12
  have H13 : Hid (x 13 = .slice (some ⟨r0 + 5, 0, none⟩) N N) := h13
  have H42 : Hid (x 42 = .slice (some ⟨tb, 0, none⟩) N N) := h42
  have H52 : Hid (x 52 = .int .i64 (i : Nat)) := h52
  have H53 : Hid (x 53 = .pointer (some ⟨sb, so, none⟩)) := h53
  have H676 : Hid (x 676 = .slice (some ⟨bb, 0, none⟩) m m) := h676
  have H677 : Hid (x 677 = .int .i64 (m : Nat)) := h677
  clear h12 h13 h42 h52 h53 h676 h677
  by_cases hlt : j < m
  · have i1 : (j : Int) < (m : Int) := by omega
    have i2 : (i : Int) < (N : Int) := by omega
    have hC := hCk.grown hg
    have hO' := hO.below (below_of_grown hg) (Nat.le_refl _)
    have hjr : j < (ob i).rds.length := by omega
    obtain ⟨d, hd⟩ : ∃ d, d = (ob i).rds[j] := ⟨_, rfl⟩
    have cD : w'.cell? ⟨bb, j, none⟩ = some (ptr d) := by
      have h1 := hC.br hi
      rw [hbb] at h1
      exact cellOf h1 j _ (by simp [hjr, hd])
    have c12 := hC.c12 hi
    have c13 := hC.c13 hi
    have cf0 := hC.cfo hi j hjr
    have cs0 := hC.cfs hi j hjr
    have ct := hC.ct hi
    have hrd := (hC.read hi j hjr).ex
    have hn8' := (hC.each i hi).ok.n8
    have hrl := (hC.each i hi).len
    rw [hm] at c12 c13 hrl
    rw [← hd] at hrd
    have s3 := hO'.c3
    obtain ⟨rb, ro, hra, hR⟩ := hO'.rs j (by omega)
    rw [hra, ← hrl] at s3
    have r0c := hR.c0
    have r1c := hR.c1
    obtain ⟨e, fv, sv, d0, d2, d3, e0, e1, hPl⟩ := hrd
    obtain ⟨n, ca, nc, fa, nf, v, sa, lc, ga, lf, hcf, rfl, hnn, hn8, hDn, hcs, rfl, hRp, hPs, hPg⟩ := (PlG.of hPl hn8').ex
    rw [hcf] at cf0
    rw [hcs] at cs0
    have hst : (stFst v).length = v.length := (stFst_perm hRp).length_eq
    have hl8 := hRp.len
    obtain ⟨l, hlv⟩ : ∃ l, l = v.length := ⟨_, rfl⟩
    rw [← hlv] at d3 cs0 hst hl8
    have Hlv : Hid (v.length = l) := hlv.symm
    have Hst : Hid ((stFst v).length = l) := hst
    obtain ⟨b, hb⟩ : ∃ b, b = decide (i ∈ H) := ⟨_, rfl⟩
    rw [← hb] at ct hDn hPg
    obtain ⟨fi, hfi⟩ : ∃ fi, fi = ((D i).rd j).file := ⟨_, rfl⟩
    obtain ⟨li, hli⟩ : ∃ li, li = ((D i).rd j).line := ⟨_, rfl⟩
    rw [← hfi] at e0 r0c
    rw [← hli] at e1 r1c
    have hq1 := eql_nil_int ca n nc
    have hq2 := eql_nil_int fa n nf
    rw [hnn] at hq1
    have HO' : Hid (ObAt w' sb so (D i)) := hO'
    obtain ⟨fob, hfob⟩ : ∃ fob, fob = (cg i).fo := ⟨_, rfl⟩
    obtain ⟨fsb, hfsb⟩ : ∃ fsb, fsb = (cg i).fs := ⟨_, rfl⟩
    rw [← hfob] at c12 cf0
    rw [← hfsb] at c13 cs0
    clear hb hfi hli hlv hst hcf hcs hRp hPl hR hO' hC hd hra hrl hn8' hfob hfsb hnn hCk
    go_wp2
    refine wp_frame rfl (fun x1 hx => ?_)
    refine loop19 x1 w' _ N i tb sb so n nc nf ca fa (Ud D i) b (D i) (hx 42) (hx 52) (hx 53) (hx 65) (hx 66) (hx 708) (hx 709) hn8 hi (fun q => rfl) ct hDn HO'.out ?_
    rintro x2 w1 hl2 hg1
    have e0 : x2 0 = x 0 := (hl2.head).trans (hx 0)
    have e8 : x2 8 = x 8 := (hl2.tail.head).trans (hx 8)
    have e9 : x2 9 = x 9 := (hl2.tail.tail.head).trans (hx 9)
    have e10 : x2 10 = x 10 := (hl2.tail.tail.tail.head).trans (hx 10)
    have e11 : x2 11 = x 11 := (hl2.tail.tail.tail.tail.head).trans (hx 11)
    have e12 : x2 12 = .slice (some ⟨r0 + 4, 0, none⟩) N N := (hl2.tail.tail.tail.tail.tail.head).trans (hx 12)
    have e13 : x2 13 = .slice (some ⟨r0 + 5, 0, none⟩) N N := (hl2.tail.tail.tail.tail.tail.tail.head).trans (hx 13)
    have e42 : x2 42 = .slice (some ⟨tb, 0, none⟩) N N := (hl2.tail.tail.tail.tail.tail.tail.tail.head).trans (hx 42)
    have e52 : x2 52 = .int .i64 (i : Nat) := (hl2.tail.tail.tail.tail.tail.tail.tail.tail.head).trans (hx 52)
    have e53 : x2 53 = .pointer (some ⟨sb, so, none⟩) := (hl2.tail.tail.tail.tail.tail.tail.tail.tail.tail.head).trans (hx 53)
    have e63 : x2 63 = .int .i64 (j : Nat) := (hl2.tail.tail.tail.tail.tail.tail.tail.tail.tail.tail.head).trans (hx 63)
    have e64 : x2 64 = .pointer (some ⟨d, 0, none⟩) := (hl2.tail.tail.tail.tail.tail.tail.tail.tail.tail.tail.tail.head).trans (hx 64)
    have e65 : x2 65 = .slice ca n nc := (hl2.tail.tail.tail.tail.tail.tail.tail.tail.tail.tail.tail.tail.head).trans (hx 65)
    have e66 : x2 66 = .slice fa n nf := (hl2.tail.tail.tail.tail.tail.tail.tail.tail.tail.tail.tail.tail.tail.head).trans (hx 66)
    have e538 : x2 538 = x 538 := (hl2.tail.tail.tail.tail.tail.tail.tail.tail.tail.tail.tail.tail.tail.tail.head).trans (hx 538)
    have e539 : x2 539 = x 539 := (hl2.tail.tail.tail.tail.tail.tail.tail.tail.tail.tail.tail.tail.tail.tail.tail.head).trans (hx 539)
    have e676 : x2 676 = .slice (some ⟨bb, 0, none⟩) m m := (hl2.tail.tail.tail.tail.tail.tail.tail.tail.tail.tail.tail.tail.tail.tail.tail.tail.head).trans (hx 676)
    have e677 : x2 677 = .int .i64 (m : Nat) := (hl2.tail.tail.tail.tail.tail.tail.tail.tail.tail.tail.tail.tail.tail.tail.tail.tail.tail.head).trans (hx 677)
    have e678 : x2 678 = .int .i64 (j : Nat) := (hl2.tail.tail.tail.tail.tail.tail.tail.tail.tail.tail.tail.tail.tail.tail.tail.tail.tail.tail.head).trans (hx 678)
    have e708 : x2 708 = .int .i64 (n : Nat) := (hl2.tail.tail.tail.tail.tail.tail.tail.tail.tail.tail.tail.tail.tail.tail.tail.tail.tail.tail.tail.head).trans (hx 708)
    rw [frame_lit, e0, e8, e9, e10, e11, e12, e13, e42, e52, e53, e63, e64, e65, e66, e538, e539, e676, e677, e678, e708]
    clear e0 e8 e9 e10 e11 e12 e13 e42 e52 e53 e63 e64 e65 e66 e538 e539 e676 e677 e678 e708 hl2 hx
    have ct1 := hg1.cell ct (by simp)
    have c131 := hg1.cell c13 (by simp)
    have cs01 := hg1.cell cs0 (by simp)
    have d31 := hg1.cell d3 (by simp)
    have hPs1 := hPs.grown hg1
    have hPg1 := hPg.grown hg1
    clear ct c12 c13 cs0 d3 d2 cf0 cD hPs hPg hq1 hq2 hDn
    cases b with
    | true =>
      simp only [cond_true] at hPg1
      go_wp2
      refine wp_frame rfl (fun x3 hx3 => ?_)
      refine loop20 x3 w1 _ l lc sa v (hx3 69) (hx3 70) (hx3 71) Hlv.out hl8 hPs1 ?_
      rintro x4 w2 hl4 hg2 hown
      obtain ⟨wa, wc, e70, hW⟩ := PrAt.of_own hown rfl
      rw [Hst.out] at e70
      have d32 := hg2.cell d31 (by simp)
      have e0 : x4 0 = x 0 := (hl4.head).trans (hx3 0)
      have e8 : x4 8 = x 8 := (hl4.tail.head).trans (hx3 8)
      have e9 : x4 9 = x 9 := (hl4.tail.tail.head).trans (hx3 9)
      have e10 : x4 10 = x 10 := (hl4.tail.tail.tail.head).trans (hx3 10)
      have e11 : x4 11 = x 11 := (hl4.tail.tail.tail.tail.head).trans (hx3 11)
      have e12 : x4 12 = .slice (some ⟨r0 + 4, 0, none⟩) N N := (hl4.tail.tail.tail.tail.tail.head).trans (hx3 12)
      have e13 : x4 13 = .slice (some ⟨r0 + 5, 0, none⟩) N N := (hl4.tail.tail.tail.tail.tail.tail.head).trans (hx3 13)
      have e42 : x4 42 = .slice (some ⟨tb, 0, none⟩) N N := (hl4.tail.tail.tail.tail.tail.tail.tail.head).trans (hx3 42)
      have e52 : x4 52 = .int .i64 (i : Nat) := (hl4.tail.tail.tail.tail.tail.tail.tail.tail.head).trans (hx3 52)
      have e53 : x4 53 = .pointer (some ⟨sb, so, none⟩) := (hl4.tail.tail.tail.tail.tail.tail.tail.tail.tail.head).trans (hx3 53)
      have e63 : x4 63 = .int .i64 (j : Nat) := (hl4.tail.tail.tail.tail.tail.tail.tail.tail.tail.tail.head).trans (hx3 63)
      have e64 : x4 64 = .pointer (some ⟨d, 0, none⟩) := (hl4.tail.tail.tail.tail.tail.tail.tail.tail.tail.tail.tail.head).trans (hx3 64)
      have e69 : x4 69 = .slice sa l lc := (hl4.tail.tail.tail.tail.tail.tail.tail.tail.tail.tail.tail.tail.head).trans (hx3 69)
      have e538 : x4 538 = x 538 := (hl4.tail.tail.tail.tail.tail.tail.tail.tail.tail.tail.tail.tail.tail.head).trans (hx3 538)
      have e539 : x4 539 = x 539 := (hl4.tail.tail.tail.tail.tail.tail.tail.tail.tail.tail.tail.tail.tail.tail.head).trans (hx3 539)
      have e676 : x4 676 = .slice (some ⟨bb, 0, none⟩) m m := (hl4.tail.tail.tail.tail.tail.tail.tail.tail.tail.tail.tail.tail.tail.tail.tail.head).trans (hx3 676)
      have e677 : x4 677 = .int .i64 (m : Nat) := (hl4.tail.tail.tail.tail.tail.tail.tail.tail.tail.tail.tail.tail.tail.tail.tail.tail.head).trans (hx3 677)
      have e678 : x4 678 = .int .i64 (j : Nat) := (hl4.tail.tail.tail.tail.tail.tail.tail.tail.tail.tail.tail.tail.tail.tail.tail.tail.tail.head).trans (hx3 678)
      rw [frame_lit, e0, e8, e9, e10, e11, e12, e13, e42, e52, e53, e63, e64, e69, e538, e539, e676, e677, e678, e70]
      clear e0 e8 e9 e10 e11 e12 e13 e42 e52 e53 e63 e64 e69 e538 e539 e676 e677 e678 e70 hl4 hx3
      have hF2 := hPg1.grown hg2
      clear ct1 c131 cs01 d31 hPs1 hPg1 hown
      go_wp2
      refine wp_frame rfl (fun x5 hx5 => ?_)
      refine loop22 x5 w2 _ wa ga l wc lf (stFst v) (hx5 70) (hx5 74) (hx5 776) (hx5 777) Hst.out hl8 hW hF2 ?_
      rintro x6 w5 hl6 hg5
      have e0 : x6 0 = x 0 := (hl6.head).trans (hx5 0)
      have e8 : x6 8 = x 8 := (hl6.tail.head).trans (hx5 8)
      have e9 : x6 9 = x 9 := (hl6.tail.tail.head).trans (hx5 9)
      have e10 : x6 10 = x 10 := (hl6.tail.tail.tail.head).trans (hx5 10)
      have e11 : x6 11 = x 11 := (hl6.tail.tail.tail.tail.head).trans (hx5 11)
      have e12 : x6 12 = .slice (some ⟨r0 + 4, 0, none⟩) N N := (hl6.tail.tail.tail.tail.tail.head).trans (hx5 12)
      have e13 : x6 13 = .slice (some ⟨r0 + 5, 0, none⟩) N N := (hl6.tail.tail.tail.tail.tail.tail.head).trans (hx5 13)
      have e42 : x6 42 = .slice (some ⟨tb, 0, none⟩) N N := (hl6.tail.tail.tail.tail.tail.tail.tail.head).trans (hx5 42)
      have e52 : x6 52 = .int .i64 (i : Nat) := (hl6.tail.tail.tail.tail.tail.tail.tail.tail.head).trans (hx5 52)
      have e53 : x6 53 = .pointer (some ⟨sb, so, none⟩) := (hl6.tail.tail.tail.tail.tail.tail.tail.tail.tail.head).trans (hx5 53)
      have e63 : x6 63 = .int .i64 (j : Nat) := (hl6.tail.tail.tail.tail.tail.tail.tail.tail.tail.tail.head).trans (hx5 63)
      have e64 : x6 64 = .pointer (some ⟨d, 0, none⟩) := (hl6.tail.tail.tail.tail.tail.tail.tail.tail.tail.tail.tail.head).trans (hx5 64)
      have e70 : x6 70 = .slice wa l wc := (hl6.tail.tail.tail.tail.tail.tail.tail.tail.tail.tail.tail.tail.head).trans (hx5 70)
      have e74 : x6 74 = .slice ga l lf := (hl6.tail.tail.tail.tail.tail.tail.tail.tail.tail.tail.tail.tail.tail.head).trans (hx5 74)
      have e538 : x6 538 = x 538 := (hl6.tail.tail.tail.tail.tail.tail.tail.tail.tail.tail.tail.tail.tail.tail.head).trans (hx5 538)
      have e539 : x6 539 = x 539 := (hl6.tail.tail.tail.tail.tail.tail.tail.tail.tail.tail.tail.tail.tail.tail.tail.head).trans (hx5 539)
      have e676 : x6 676 = .slice (some ⟨bb, 0, none⟩) m m := (hl6.tail.tail.tail.tail.tail.tail.tail.tail.tail.tail.tail.tail.tail.tail.tail.tail.head).trans (hx5 676)
      have e677 : x6 677 = .int .i64 (m : Nat) := (hl6.tail.tail.tail.tail.tail.tail.tail.tail.tail.tail.tail.tail.tail.tail.tail.tail.tail.head).trans (hx5 677)
      have e678 : x6 678 = .int .i64 (j : Nat) := (hl6.tail.tail.tail.tail.tail.tail.tail.tail.tail.tail.tail.tail.tail.tail.tail.tail.tail.tail.head).trans (hx5 678)
      have e776 : x6 776 = .int .i64 (l : Nat) := (hl6.tail.tail.tail.tail.tail.tail.tail.tail.tail.tail.tail.tail.tail.tail.tail.tail.tail.tail.tail.head).trans (hx5 776)
      rw [frame_lit, e0, e8, e9, e10, e11, e12, e13, e42, e52, e53, e63, e64, e70, e74, e538, e539, e676, e677, e678, e776]
      clear e0 e8 e9 e10 e11 e12 e13 e42 e52 e53 e63 e64 e70 e74 e538 e539 e676 e677 e678 e776 hl6 hx5
      have hgw : w'.grownBy w5 none := (hg1.trans hg2).trans hg5
      have d05 := hgw.cell d0 (by simp)
      have e05 := hgw.cell e0 (by simp)
      have e15 := hgw.cell e1 (by simp)
      have s35 := hgw.cell s3 (by simp)
      have r05 := hgw.cell r0c (by simp)
      have r15 := hgw.cell r1c (by simp)
      have HGW : Hid (w.grownBy w5 none) := hg.trans hgw
      clear d0 e0 e1 s3 r0c r1c hg5
      go_wp2
      go_quiet (fail)
      go_wp2
      refine ⟨end_frame rfl (fun y hy => ⟨j + 1, live_cons (hy 0) (live_cons (hy 8) (live_cons (hy 9) (live_cons (hy 10) (live_cons (hy 11) (live_cons ((hy 12).trans H12.out.symm) (live_cons ((hy 13).trans H13.out.symm) (live_cons ((hy 42).trans H42.out.symm) (live_cons ((hy 52).trans H52.out.symm) (live_cons ((hy 53).trans H53.out.symm) (live_cons (hy 538) (live_cons (hy 539) (live_cons ((hy 676).trans H676.out.symm) (live_cons ((hy 677).trans H677.out.symm) (live_nil _)))))))))))))), hy 678, by omega, HGW.out.trans (grown_drewN _ _ none)⟩), ?_⟩
      show m - (intOf (.int .i64 ((j : Int) + 1))).toNat < m - (intOf (.int .i64 (j : Int))).toNat
      simp [intOf]; omega
    | false =>
      simp only [cond_false] at hPg1
      go_wp2
      refine wp_frame rfl (fun x5 hx5 => ?_)
      refine loop22 x5 w1 _ sa ga l lc lf (v) (hx5 70) (hx5 74) (hx5 776) (hx5 777) Hlv.out hl8 hPs1 hPg1 ?_
      rintro x6 w5 hl6 hg5
      have e0 : x6 0 = x 0 := (hl6.head).trans (hx5 0)
      have e8 : x6 8 = x 8 := (hl6.tail.head).trans (hx5 8)
      have e9 : x6 9 = x 9 := (hl6.tail.tail.head).trans (hx5 9)
      have e10 : x6 10 = x 10 := (hl6.tail.tail.tail.head).trans (hx5 10)
      have e11 : x6 11 = x 11 := (hl6.tail.tail.tail.tail.head).trans (hx5 11)
      have e12 : x6 12 = .slice (some ⟨r0 + 4, 0, none⟩) N N := (hl6.tail.tail.tail.tail.tail.head).trans (hx5 12)
      have e13 : x6 13 = .slice (some ⟨r0 + 5, 0, none⟩) N N := (hl6.tail.tail.tail.tail.tail.tail.head).trans (hx5 13)
      have e42 : x6 42 = .slice (some ⟨tb, 0, none⟩) N N := (hl6.tail.tail.tail.tail.tail.tail.tail.head).trans (hx5 42)
      have e52 : x6 52 = .int .i64 (i : Nat) := (hl6.tail.tail.tail.tail.tail.tail.tail.tail.head).trans (hx5 52)
      have e53 : x6 53 = .pointer (some ⟨sb, so, none⟩) := (hl6.tail.tail.tail.tail.tail.tail.tail.tail.tail.head).trans (hx5 53)
      have e63 : x6 63 = .int .i64 (j : Nat) := (hl6.tail.tail.tail.tail.tail.tail.tail.tail.tail.tail.head).trans (hx5 63)
      have e64 : x6 64 = .pointer (some ⟨d, 0, none⟩) := (hl6.tail.tail.tail.tail.tail.tail.tail.tail.tail.tail.tail.head).trans (hx5 64)
      have e70 : x6 70 = .slice sa l lc := (hl6.tail.tail.tail.tail.tail.tail.tail.tail.tail.tail.tail.tail.head).trans (hx5 70)
      have e74 : x6 74 = .slice ga l lf := (hl6.tail.tail.tail.tail.tail.tail.tail.tail.tail.tail.tail.tail.tail.head).trans (hx5 74)
      have e538 : x6 538 = x 538 := (hl6.tail.tail.tail.tail.tail.tail.tail.tail.tail.tail.tail.tail.tail.tail.head).trans (hx5 538)
      have e539 : x6 539 = x 539 := (hl6.tail.tail.tail.tail.tail.tail.tail.tail.tail.tail.tail.tail.tail.tail.tail.head).trans (hx5 539)
      have e676 : x6 676 = .slice (some ⟨bb, 0, none⟩) m m := (hl6.tail.tail.tail.tail.tail.tail.tail.tail.tail.tail.tail.tail.tail.tail.tail.tail.head).trans (hx5 676)
      have e677 : x6 677 = .int .i64 (m : Nat) := (hl6.tail.tail.tail.tail.tail.tail.tail.tail.tail.tail.tail.tail.tail.tail.tail.tail.tail.head).trans (hx5 677)
      have e678 : x6 678 = .int .i64 (j : Nat) := (hl6.tail.tail.tail.tail.tail.tail.tail.tail.tail.tail.tail.tail.tail.tail.tail.tail.tail.tail.head).trans (hx5 678)
      have e776 : x6 776 = .int .i64 (l : Nat) := (hl6.tail.tail.tail.tail.tail.tail.tail.tail.tail.tail.tail.tail.tail.tail.tail.tail.tail.tail.tail.head).trans (hx5 776)
      rw [frame_lit, e0, e8, e9, e10, e11, e12, e13, e42, e52, e53, e63, e64, e70, e74, e538, e539, e676, e677, e678, e776]
      clear e0 e8 e9 e10 e11 e12 e13 e42 e52 e53 e63 e64 e70 e74 e538 e539 e676 e677 e678 e776 hl6 hx5
      have hgw : w'.grownBy w5 none := (hg1).trans hg5
      have d05 := hgw.cell d0 (by simp)
      have e05 := hgw.cell e0 (by simp)
      have e15 := hgw.cell e1 (by simp)
      have s35 := hgw.cell s3 (by simp)
      have r05 := hgw.cell r0c (by simp)
      have r15 := hgw.cell r1c (by simp)
      have HGW : Hid (w.grownBy w5 none) := hg.trans hgw
      clear d0 e0 e1 s3 r0c r1c hg5
      go_wp2
      go_quiet (fail)
      go_wp2
      refine ⟨end_frame rfl (fun y hy => ⟨j + 1, live_cons (hy 0) (live_cons (hy 8) (live_cons (hy 9) (live_cons (hy 10) (live_cons (hy 11) (live_cons ((hy 12).trans H12.out.symm) (live_cons ((hy 13).trans H13.out.symm) (live_cons ((hy 42).trans H42.out.symm) (live_cons ((hy 52).trans H52.out.symm) (live_cons ((hy 53).trans H53.out.symm) (live_cons (hy 538) (live_cons (hy 539) (live_cons ((hy 676).trans H676.out.symm) (live_cons ((hy 677).trans H677.out.symm) (live_nil _)))))))))))))), hy 678, by omega, HGW.out.trans (grown_drewN _ _ none)⟩), ?_⟩
      show m - (intOf (.int .i64 ((j : Int) + 1))).toNat < m - (intOf (.int .i64 (j : Int))).toNat
      simp [intOf]; omega
  · have hd : decide ((j : Int) < (m : Int)) = false := by simp; omega
    have hd2 : decide (j < m) = false := by simp; omega
    obtain rfl : j = m := by omega
    go_wp2
    refine at_frame (Q := fun a w => Q _ a w) rfl (fun y hy => ?_)
    exact hexit y _ (live_cons (hy 0) (live_cons (hy 8) (live_cons (hy 9) (live_cons (hy 10) (live_cons (hy 11) (live_cons ((hy 12).trans H12.out.symm) (live_cons ((hy 13).trans H13.out.symm) (live_cons ((hy 42).trans H42.out.symm) (live_cons ((hy 52).trans H52.out.symm) (live_cons ((hy 53).trans H53.out.symm) (live_cons (hy 538) (live_cons (hy 539) (live_cons ((hy 676).trans H676.out.symm) (live_cons ((hy 677).trans H677.out.symm) (live_nil _))))))))))))))) hg
end Go.Proofs.Ybulkeidm
