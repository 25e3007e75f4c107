/-
  LawS6720BWhole: the picks.
-/
import Derived.Test.YbulkeidmL14
import Derived.Test.YbulkeidmRnd
namespace Go.Proofs.Ybulkeidm
open Go.RowKit

section
variable {D : Nat → ObIn} {r0 N i : Nat} {G : Nat → Option Gh} {kf kl : Nat → Int} {rk : Nat → RK} {ob : Nat → OG} {cg : Nat → CG} {E : List (Nat × Nat)} {W0 w w' w2 : World} {ab tb K k s0 : Nat} {P : Nat → Option Nat} {fv : Value}
theorem Built.above (h : Built D r0 N i G kf kl rk ob cg E w) {row : Option Nat} (hg : w.grownBy w' row) (hlt : ∀ b x, G b = some x → b < s0) (hr0 : r0 + 6 ≤ s0) (hr : ∀ g, row = some g → s0 ≤ g) : Built D r0 N i G kf kl rk ob cg E w' :=
  ⟨h.mem.grown hg (fun g hg' => by
    cases hx : G g with
    | none => rfl
    | some x => have := hlt g x hx; have := hr g hg'; omega), h.lo, h.each, h.keys, h.look, h.six.grown hg (fun g hg' => by have := hr g hg'; omega), h.few⟩
abbrev presOf (D : Nat → ObIn) (i : Nat) : Bool := (D i).present
/-- The first k picks are taken. -/
structure PickAt (D : Nat → ObIn) (W0 : World) (r0 N K : Nat) (G : Nat → Option Gh) (kf kl : Nat → Int) (rk : Nat → RK) (ob : Nat → OG) (cg : Nat → CG) (E : List (Nat × Nat)) (ab tb : Nat) (P : Nat → Option Nat) (k : Nat) (w w' : World) (fv : Value) : Prop where
  bel : Below W0.heap.size W0 w'
  bt : Built D r0 N N G kf kl rk ob cg E w'
  size : w.heap.size ≤ w'.heap.size
  arg : RowF w' ab 50 K (pick k (fun j => optPtr ((P j).map fun i => (ob i).po)) (.pointer none))
  tch : RowF w' tb 4 N (fun i => .bool (decide (i ∈ hits (presOf D) ((List.range k).map P))))
  own : w'.ownsRow w.heap.size 67 1 fv (hits (presOf D) ((List.range k).map P)).length ((hits (presOf D) ((List.range k).map P)).map fun i => ptr (ob i).poo)
theorem hits_none (h : (P k).bind (fun i => if presOf D i then some i else none) = none) : hits (presOf D) ((List.range (k + 1)).map P) = hits (presOf D) ((List.range k).map P) := by
  rw [List.range_succ, List.map_append]
  simp [hits, h]
theorem hits_some {t : Nat} (h : P k = some t) (hp : (D t).present = true) : hits (presOf D) ((List.range (k + 1)).map P) = hits (presOf D) ((List.range k).map P) ++ [t] := by
  rw [List.range_succ, List.map_append]
  simp [hits, h, hp, presOf]
theorem PickAt.over (h : PickAt D W0 r0 N K G kf kl rk ob cg E ab tb P k w w' fv) (hP : P k = none) : PickAt D W0 r0 N K G kf kl rk ob cg E ab tb P (k + 1) w w' fv := by
  have e := hits_none (D := D) (P := P) (k := k) (by simp [hP])
  refine ⟨h.bel, h.bt, h.size, h.arg.turn _ (fun j hj => ?_), by rw [e]; exact h.tch, by rw [e]; exact h.own⟩
  unfold pick
  by_cases e1 : j < k
  · rw [if_pos e1, if_pos (by omega)]
  · rw [if_neg e1]
    by_cases e2 : j < k + 1
    · obtain rfl : j = k := by omega
      rw [if_pos e2]
      show optPtr ((P j).map fun i => (ob i).po) = _
      rw [hP]; rfl
    · rw [if_neg e2]
theorem PickAt.miss {t : Nat} (h : PickAt D W0 r0 N K G kf kl rk ob cg E ab tb P k w w' fv) (hP : P k = some t) (hp : (D t).present = false) (hk : k < K) (hlt : ∀ b x, G b = some x → b < s0) (hr0 : r0 + 6 ≤ s0) (hab : s0 ≤ ab) (hat : ab ≠ tb) (hW : W0.heap.size ≤ r0) (hws : ab < w.heap.size) :
    PickAt D W0 r0 N K G kf kl rk ob cg E ab tb P (k + 1) w (w'.setCell ⟨ab, k, none⟩ (ptr (ob t).po)) fv := by
  have e := hits_none (D := D) (P := P) (k := k) (by simp [hP, hp, presOf])
  have hg := grown_setCell w' ab k (ptr (ob t).po)
  refine ⟨below_grown h.bel hg (fun g hg => by cases hg; omega) h.bel.size, h.bt.above hg hlt hr0 (fun g hg => by cases hg; exact hab), Nat.le_trans h.size hg.size, h.arg.set k _ _ hk ?_ ?_, by rw [e]; exact h.tch.grown hg (fun e => hat (Option.some.inj e).symm), by rw [e]; exact own_keep h.own hg (fun g hg' e2 => by have := own_lt h.own hg'; have := Option.some.inj e2; omega)⟩
  · show (if k < k + 1 then optPtr ((P k).map fun i => (ob i).po) else .pointer none) = _; rw [if_pos (by omega), hP]; rfl
  · intro j hj hne
    unfold pick
    by_cases e1 : j < k
    · rw [if_pos e1, if_pos (by omega)]
    · rw [if_neg e1, if_neg (by omega)]
theorem PickAt.hit {t g cap : Nat} (h : PickAt D W0 r0 N K G kf kl rk ob cg E ab tb P k w w' fv) (hP : P k = some t) (htN : t < N) (hp : (D t).present = true) (hk : k < K) (hlt : ∀ b x, G b = some x → b < s0) (hr0 : r0 + 6 ≤ s0) (hab : s0 ≤ ab) (htb : s0 ≤ tb) (hat : ab ≠ tb) (hW : W0.heap.size ≤ r0) (hws : ab < w.heap.size) (hwt : tb < w.heap.size)
    (hgr : (((w'.setCell ⟨ab, k, none⟩ (ptr (ob t).po)).setCell ⟨tb, t, none⟩ (.bool true)).alloc (.cells #[ptr (ob t).poo] 67)).grownBy w2 fv.ownBlock)
    (hown : w2.ownsRow w.heap.size 67 1 (.slice (some ⟨g, 0, none⟩) ((hits (presOf D) ((List.range k).map P)).length + 1) cap) ((hits (presOf D) ((List.range k).map P)).length + 1) (((hits (presOf D) ((List.range k).map P)).map fun i => ptr (ob i).poo) ++ [ptr (ob t).poo])) :
    PickAt D W0 r0 N K G kf kl rk ob cg E ab tb P (k + 1) w w2 (.slice (some ⟨g, 0, none⟩) ((hits (presOf D) ((List.range k).map P)).length + 1) cap) := by
  have e := hits_some (D := D) (P := P) (k := k) hP hp
  have hg1 := grown_setCell w' ab k (ptr (ob t).po)
  have hg2 := grown_setCell (w'.setCell ⟨ab, k, none⟩ (ptr (ob t).po)) tb t (.bool true)
  have hg3 := World.grownBy_alloc ((w'.setCell ⟨ab, k, none⟩ (ptr (ob t).po)).setCell ⟨tb, t, none⟩ (.bool true)) (.cells #[ptr (ob t).poo] 67) none
  have hbk : ∀ q, fv.ownBlock = some q → w.heap.size ≤ q := fun q hq => own_lt h.own hq
  have hbt := h.bt.six.lt
  have a1 : RowF (w'.setCell ⟨ab, k, none⟩ (ptr (ob t).po)) ab 50 K (pick (k + 1) (fun j => optPtr ((P j).map fun i => (ob i).po)) (.pointer none)) := by
    refine h.arg.set k _ _ hk ?_ ?_
    · show (if k < k + 1 then optPtr ((P k).map fun i => (ob i).po) else .pointer none) = _; rw [if_pos (by omega), hP]; rfl
    · intro j hj hne
      unfold pick
      by_cases e1 : j < k
      · rw [if_pos e1, if_pos (by omega)]
      · rw [if_neg e1, if_neg (by omega)]
  have t1 : RowF ((w'.setCell ⟨ab, k, none⟩ (ptr (ob t).po)).setCell ⟨tb, t, none⟩ (.bool true)) tb 4 N (fun i => .bool (decide (i ∈ hits (presOf D) ((List.range (k + 1)).map P)))) := by
    refine (h.tch.grown hg1 (fun e => hat (Option.some.inj e).symm)).set t _ _ htN ?_ ?_
    · rw [e]; simp
    · intro j hj hne
      rw [e]; simp [hne]
  refine ⟨?_, ?_, ?_, ?_, ?_, ?_⟩
  · have hB1 := below_grown h.bel hg1 (fun g hg => by cases hg; omega) h.bel.size
    have hB2 := below_grown hB1 hg2 (fun g hg => by cases hg; omega) hB1.size
    have hB3 := below_grown hB2 hg3 (fun g hg => by cases hg) hB2.size
    exact below_grown hB3 hgr (fun q hq => by have := hbk q hq; omega) hB3.size
  · exact (((h.bt.above hg1 hlt hr0 (fun g hg => by cases hg; exact hab)).above hg2 hlt hr0 (fun g hg => by cases hg; exact htb)).above hg3 hlt hr0 (fun g hg => by cases hg)).above hgr hlt hr0 (fun q hq => by have := hbk q hq; omega)
  · have := h.size; have := hg1.size; have := hg2.size; have := hg3.size; have := hgr.size; omega
  · exact ((a1.grown hg2 (fun e => hat (Option.some.inj e))).grown hg3 (by simp)).grown hgr (fun e => by have := hbk ab e.symm; omega)
  · exact (t1.grown hg3 (by simp)).grown hgr (fun e => by have := hbk tb e.symm; omega)
  · rw [e, List.length_append, List.map_append]; exact hown
end
/-- A pick, as an index. -/
def pkOf (N : Nat) (p : Int) : Option Nat := if p.toNat % (N + 1) < N then some (p.toNat % (N + 1)) else none

set_option maxHeartbeats 4000000 in
set_option maxRecDepth 100000 in
theorem loop10 (x : Nat → Value) (w W0 : World) (Q : Exit → Act → World → Prop) (r0 N K cO pc ab tb s0 : Nat) (ao pa : Option Addr) (D : Nat → ObIn) (G : Nat → Option Gh) (kf kl : Nat → Int) (rk : Nat → RK) (ob : Nat → OG) (cg : Nat → CG) (E : List (Nat × Nat)) (P : Nat → Option Nat) (pv : Nat → Int) (h0 : x 0 = .slice ao N cO) (h8 : x 8 = .slice (some ⟨r0, 0, none⟩) N N) (h9 : x 9 = .slice (some ⟨r0 + 1, 0, none⟩) N N) (h41 : x 41 = .slice (some ⟨ab, 0, none⟩) K K) (h42 : x 42 = .slice (some ⟨tb, 0, none⟩) N N) (h438 : x 438 = .slice pa K pc) (h439 : x 439 = .int .i64 (K : Nat)) (h43 : x 43 = .slice none 0 0) (h440 : x 440 = .int .i64 0)
    (hPv : ∀ k, k < K → P k = pkOf N (pv k)) (hO : ObsAt W0 ao N D) (hp : InRow W0 pa K fun k => .int .u8 (pv k)) (hp0 : ∀ k, k < K → 0 ≤ pv k ∧ pv k < 256) (hN : N ≤ 4096) (hK : K ≤ 4096) (hlt : ∀ b x, G b = some x → b < s0) (hr0 : r0 + 6 ≤ s0) (hab : s0 ≤ ab) (htb : s0 ≤ tb) (hat : ab ≠ tb) (hW : W0.heap.size ≤ r0)
    (hbel : Below W0.heap.size W0 w) (hbt : Built D r0 N N G kf kl rk ob cg E w) (harg : RowF w ab 50 K (fun _ => .pointer none)) (htch : RowF w tb 4 N (fun _ => .bool false))
    (hexit : ∀ x' w', Live [(0, x 0), (8, x 8), (9, x 9), (10, x 10), (11, x 11), (12, x 12), (13, x 13), (14, x 14), (41, x 41), (42, x 42), (438, x 438), (439, x 439)] x' → PickAt D W0 r0 N K G kf kl rk ob cg E ab tb P K w w' (x' 43) → Q (.exit 18) ⟨frame x', []⟩ w') :
    Code.wp Yba.prog (.loop (loopAt Yba.f3 9)) Q ⟨frame x, []⟩ w := by
  have hws := harg.rowB.lt
  have hwt := htch.rowB.lt
  refine wp_loop (fun a w' => ∃ (x' : Nat → Value), a = ⟨frame x', []⟩ ∧ ∃ (k : Nat), Live [(0, x 0), (8, x 8), (9, x 9), (10, x 10), (11, x 11), (12, x 12), (13, x 13), (14, x 14), (41, x 41), (42, x 42), (438, x 438), (439, x 439)] x' ∧ x' 440 = .int .i64 (k : Nat) ∧ k ≤ K ∧ PickAt D W0 r0 N K G kf kl rk ob cg E ab tb P k w w' (x' 43)) (fun a _ => K - (intOf (a.tmps.getD 440 (.bool false))).toNat) ⟨x, rfl, 0, live_cons (rfl) (live_cons (rfl) (live_cons (rfl) (live_cons (rfl) (live_cons (rfl) (live_cons (rfl) (live_cons (rfl) (live_cons (rfl) (live_cons (rfl) (live_cons (rfl) (live_cons (rfl) (live_cons (rfl) (live_nil _)))))))))))), h440, by omega, ⟨hbel, hbt, Nat.le_refl _, harg, by simpa [hits] using htch, by rw [h43]; exact ⟨rfl, .inl ⟨rfl, rfl⟩⟩⟩⟩ ?_
  clear harg htch hbel hbt h43 h440
  rintro a w' ⟨x', rfl, k, hl, o440, hk, hA⟩
  obtain ⟨fv, o43⟩ : ∃ fv, x' 43 = fv := ⟨_, rfl⟩
  rw [o43] at hA
  have e0 := (hl.head).trans h0
  have e8 := (hl.tail.head).trans h8
  have e9 := (hl.tail.tail.head).trans h9
  have e10 := hl.tail.tail.tail.head
  have e11 := hl.tail.tail.tail.tail.head
  have e12 := hl.tail.tail.tail.tail.tail.head
  have e13 := hl.tail.tail.tail.tail.tail.tail.head
  have e14 := hl.tail.tail.tail.tail.tail.tail.tail.head
  have e41 := (hl.tail.tail.tail.tail.tail.tail.tail.tail.head).trans h41
  have e42 := (hl.tail.tail.tail.tail.tail.tail.tail.tail.tail.head).trans h42
  have e438 := (hl.tail.tail.tail.tail.tail.tail.tail.tail.tail.tail.head).trans h438
  have e439 := (hl.tail.tail.tail.tail.tail.tail.tail.tail.tail.tail.tail.head).trans h439
  rw [frame_lit, e0, e8, e9, e10, e11, e12, e13, e14, e41, e42, e438, e439, o440, o43]
  clear e0 e8 e9 e10 e11 e12 e13 e14 e41 e42 e438 e439 hl o440 o43
  conv => arg 2; whnf
  have H0 : Hid (x 0 = .slice ao N cO) := h0
  have H8 : Hid (x 8 = .slice (some ⟨r0, 0, none⟩) N N) := h8
  have H9 : Hid (x 9 = .slice (some ⟨r0 + 1, 0, none⟩) N N) := h9
  have H41 : Hid (x 41 = .slice (some ⟨ab, 0, none⟩) K K) := h41
  have H42 : Hid (x 42 = .slice (some ⟨tb, 0, none⟩) N N) := h42
  have H438 : Hid (x 438 = .slice pa K pc) := h438
  have H439 : Hid (x 439 = .int .i64 (K : Nat)) := h439
  clear h0 h8 h9 h41 h42 h438 h439
  by_cases hkl : k < K
  · have i1 : (k : Int) < (K : Int) := by omega
    obtain ⟨pb, pO, rfl, cp⟩ := hp k hkl
    have cp' := (InRow.below (w' := w') hp hA.bel (Nat.le_refl _)) k hkl
    obtain ⟨pb', pO', hpe, cp2⟩ := cp'
    cases hpe
    have hp1 := hp0 k hkl
    have hPk := hPv k hkl
    obtain ⟨v, hv⟩ : ∃ v, v = pv k := ⟨_, rfl⟩
    simp only at cp2
    rw [← hv] at cp2 hp1 hPk
    clear hv cp
    obtain ⟨t, ht⟩ : ∃ t : Nat, t = v.toNat % (N + 1) := ⟨_, rfl⟩
    have htI : v % ((N : Int) + 1) = (t : Int) := by rw [ht, Int.natCast_emod, Int.toNat_of_nonneg hp1.1]; simp
    have htN : t ≤ N := by rw [ht]; have := Nat.mod_lt v.toNat (show 0 < N + 1 by omega); omega
    rw [pkOf, ← ht] at hPk
    have HPk : Hid (P k = if t < N then some t else none) := hPk
    clear ht hPk
    have hN1 : (N : Int) + 1 ≠ 0 := by omega
    go_upto_region 102 with fail
    rw [htI]
    clear htI cp2 hp1 hN1
    by_cases htl : t < N
    · have i3 : (t : Int) < (N : Int) := by omega
      have hPt : P k = some t := by rw [HPk.out, if_pos htl]
      have HPt : Hid (P k = some t) := hPt
      clear hPt
      obtain ⟨sb, so, rfl, hOt⟩ := hO t htl
      have c0 := (hOt.below hA.bel (Nat.le_refl _)).c0
      have hMd := hA.bt.each t htl
      have c8 := hA.bt.six.r8.cell t htl
      have c9 := hA.bt.six.r9.cell t htl
      rw [pick_at htl] at c8 c9
      obtain ⟨cs, ty, h1, h2⟩ := hMd.ok.col
      have coo := cellOf (hA.bt.mem _ _ h1) 0 _ h2
      have lsb := lt_cell hOt.c0
      have n1 : sb ≠ ab := by simp only at lsb; omega
      have n2 : sb ≠ tb := by simp only at lsb; omega
      have n3 : r0 + 1 ≠ ab := by omega
      have n4 : r0 + 1 ≠ tb := by omega
      have lpc := hlt _ _ h1
      clear h2 hMd hOt lsb
      obtain ⟨av, cA⟩ := hA.arg.rowB.cell k hkl
      have fA := hA.arg.rowB.frozen k
      obtain ⟨tv, cT⟩ := hA.tch.rowB.cell t htl
      have fT := hA.tch.rowB.frozen t
      obtain ⟨po, hpo⟩ : ∃ po, po = (ob t).po := ⟨_, rfl⟩
      obtain ⟨pq, hpq⟩ : ∃ pq, pq = (ob t).pc := ⟨_, rfl⟩
      obtain ⟨poo, hpoo⟩ : ∃ poo, poo = (ob t).poo := ⟨_, rfl⟩
      have Hpo : Hid (po = (ob t).po) := hpo
      have Hpoo : Hid (poo = (ob t).poo) := hpoo
      rw [← hpo] at c8
      rw [← hpq] at c9 coo
      rw [← hpoo] at coo
      rw [← hpq] at lpc
      have n5 : pq ≠ ab := by omega
      have n6 : pq ≠ tb := by omega
      clear hpo hpq hpoo lpc h1
      have lA := hA.arg.rowB.lt
      have lT := hA.tch.rowB.lt
      cases hpr : (D t).present with
      | false =>
        rw [hpr] at c0
        have hA2 := hA.miss HPt.out hpr hkl hlt hr0 hab hat hW hws
        rw [← Hpo.out] at hA2
        have HA2 : Hid (PickAt D W0 r0 N K G kf kl rk ob cg E ab tb P (k + 1) w (w'.setCell ⟨ab, k, none⟩ (ptr po)) fv) := hA2
        clear hA2 hA
        go_wp2
        refine ⟨end_frame rfl (fun y hy => ⟨k + 1, live_cons ((hy 0).trans H0.out.symm) (live_cons ((hy 8).trans H8.out.symm) (live_cons ((hy 9).trans H9.out.symm) (live_cons (hy 10) (live_cons (hy 11) (live_cons (hy 12) (live_cons (hy 13) (live_cons (hy 14) (live_cons ((hy 41).trans H41.out.symm) (live_cons ((hy 42).trans H42.out.symm) (live_cons ((hy 438).trans H438.out.symm) (live_cons ((hy 439).trans H439.out.symm) (live_nil _)))))))))))), hy 440, by omega, by rw [show y 43 = fv from hy 43]; exact HA2.out⟩), ?_⟩
        show K - (intOf (.int .i64 ((k : Int) + 1))).toNat < K - (intOf (.int .i64 (k : Int))).toNat
        simp [intOf]; omega
      | true =>
        rw [hpr] at c0
        go_upto_region 106 with fail
        obtain ⟨wT, hwT⟩ : ∃ wT, wT = (w'.setCell ⟨ab, k, none⟩ (ptr po)).setCell ⟨tb, t, none⟩ (.bool true) := ⟨_, rfl⟩
        have HwT : Hid (wT = (w'.setCell ⟨ab, k, none⟩ (ptr po)).setCell ⟨tb, t, none⟩ (.bool true)) := hwT
        have hownT : wT.ownsRow w.heap.size 67 1 fv (hits (presOf D) ((List.range k).map P)).length ((hits (presOf D) ((List.range k).map P)).map fun i => ptr (ob i).poo) := by
          rw [hwT]
          exact own_keep (own_keep hA.own (grown_setCell _ _ _ _) (fun g hg e => by have := own_lt hA.own hg; have := Option.some.inj e; omega)) (grown_setCell _ _ _ _) (fun g hg e => by have := own_lt hA.own hg; have := Option.some.inj e; omega)
        have c9T : wT.cell? ⟨r0 + 1, t, none⟩ = some (ptr pq) := by
          rw [hwT]
          exact (grown_setCell _ tb t _).cell ((grown_setCell _ ab k _).cell c9 (fun e => n3 (Option.some.inj e))) (fun e => n4 (Option.some.inj e))
        have cooT : wT.cell? ⟨pq, 0, none⟩ = some (ptr poo) := by
          rw [hwT]
          exact (grown_setCell _ tb t _).cell ((grown_setCell _ ab k _).cell coo (fun e => n5 (Option.some.inj e))) (fun e => n6 (Option.some.inj e))
        have hszT : w.heap.size ≤ wT.heap.size := by have := hA.size; rw [hwT]; simp only [World.setCell, Array.size_modify]; exact this
        have hmb : (hits (presOf D) ((List.range k).map P)).length ≤ 5000 := by
          have h1 : (hits (presOf D) ((List.range k).map P)).length ≤ ((List.range k).map P).length := List.length_filterMap_le _ _
          simp at h1; omega
        rw [← hwT]
        clear hwT c0 c8 c9 coo cA fA cT fT lA lT
        have hF3 := hownT.alloc (.cells #[ptr poo] 67)
        have HBB : Hid ((wT.alloc (.cells #[ptr poo] 67)).heap[wT.heap.size]? = some (.cells #[ptr poo] 67 (0, 0))) := alloc_last _ _
        have hbs : w.heap.size ≤ (wT.alloc (.cells #[ptr poo] 67)).heap.size := by have h3 := (World.grownBy_alloc wT (.cells #[ptr poo] 67) none).size; omega
        obtain ⟨mh, hmh⟩ : ∃ mh, mh = (hits (presOf D) ((List.range k).map P)).length := ⟨_, rfl⟩
        have Hmh : Hid (mh = (hits (presOf D) ((List.range k).map P)).length) := hmh
        rw [← hmh] at hF3 hmb
        clear hmh hownT
        go_wp2_with (at_builtin; (refine append_oo rfl (.tmp 470) (.tmp 478) rfl w.heap.size fv mh _ rfl hF3 wT.heap.size poo rfl HBB.out (by omega) hbs ?_; intro g cap w2 hown2 hgrow hgat))
        have HA2 : Hid (PickAt D W0 r0 N K G kf kl rk ob cg E ab tb P (k + 1) w w2 (.slice (some ⟨g, 0, none⟩) (mh + 1) cap)) := by
          rw [Hmh.out, Hpoo.out] at hown2
          rw [HwT.out, Hpo.out, Hpoo.out] at hgrow
          show PickAt D W0 r0 N K G kf kl rk ob cg E ab tb P (k + 1) w w2 (.slice (some ⟨g, 0, none⟩) (mh + 1) cap)
          rw [Hmh.out]
          exact hA.hit HPt.out htl hpr hkl hlt hr0 hab htb hat hW hws hwt hgrow hown2
        clear hA hown2 hgrow hgat hF3 HBB hbs
        refine ⟨end_frame rfl (fun y hy => ⟨k + 1, live_cons ((hy 0).trans H0.out.symm) (live_cons ((hy 8).trans H8.out.symm) (live_cons ((hy 9).trans H9.out.symm) (live_cons (hy 10) (live_cons (hy 11) (live_cons (hy 12) (live_cons (hy 13) (live_cons (hy 14) (live_cons ((hy 41).trans H41.out.symm) (live_cons ((hy 42).trans H42.out.symm) (live_cons ((hy 438).trans H438.out.symm) (live_cons ((hy 439).trans H439.out.symm) (live_nil _)))))))))))), hy 440, by omega, by rw [show y 43 = .slice (some ⟨g, 0, none⟩) (mh + 1) cap from hy 43]; exact HA2.out⟩), ?_⟩
        show K - (intOf (.int .i64 ((k : Int) + 1))).toNat < K - (intOf (.int .i64 (k : Int))).toNat
        simp [intOf]; omega
    · have hPt : P k = none := by rw [HPk.out, if_neg htl]
      have hd : decide ((t : Int) < (N : Int)) = false := by simp; omega
      have hd2 : decide (t < N) = false := by simp; omega
      have HA2 : Hid (PickAt D W0 r0 N K G kf kl rk ob cg E ab tb P (k + 1) w w' fv) := hA.over hPt
      clear hPt hA
      go_wp2
      refine ⟨end_frame rfl (fun y hy => ⟨k + 1, live_cons ((hy 0).trans H0.out.symm) (live_cons ((hy 8).trans H8.out.symm) (live_cons ((hy 9).trans H9.out.symm) (live_cons (hy 10) (live_cons (hy 11) (live_cons (hy 12) (live_cons (hy 13) (live_cons (hy 14) (live_cons ((hy 41).trans H41.out.symm) (live_cons ((hy 42).trans H42.out.symm) (live_cons ((hy 438).trans H438.out.symm) (live_cons ((hy 439).trans H439.out.symm) (live_nil _)))))))))))), hy 440, by omega, by rw [show y 43 = fv from hy 43]; exact HA2.out⟩), ?_⟩
      show K - (intOf (.int .i64 ((k : Int) + 1))).toNat < K - (intOf (.int .i64 (k : Int))).toNat
      simp [intOf]; omega
  · have hd : decide ((k : Int) < (K : Int)) = false := by simp; omega
    have hd2 : decide (k < K) = false := by simp; omega
    obtain rfl : k = K := by omega
    go_wp2
    refine at_frame (Q := fun a w => Q _ a w) rfl (fun y hy => ?_)
    have e43 : y 43 = fv := hy 43
    exact hexit y _ (live_cons ((hy 0).trans H0.out.symm) (live_cons ((hy 8).trans H8.out.symm) (live_cons ((hy 9).trans H9.out.symm) (live_cons (hy 10) (live_cons (hy 11) (live_cons (hy 12) (live_cons (hy 13) (live_cons (hy 14) (live_cons ((hy 41).trans H41.out.symm) (live_cons ((hy 42).trans H42.out.symm) (live_cons ((hy 438).trans H438.out.symm) (live_cons ((hy 439).trans H439.out.symm) (live_nil _))))))))))))) (by rw [e43]; exact hA)
end Go.Proofs.Ybulkeidm
