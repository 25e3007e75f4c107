/-
  LawS6720BWhole: the build.
-/
import Derived.Test.YbulkeidmRnd
namespace Go.Proofs.Ybulkeidm
open Go.RowKit

theorem info38 : (Yba.prog.info? 38).map (fun i => (i.zero, i.size, i.bytes)) = some (some (.slice none 0 0), 1, 24) := by kernel_rfl
theorem run_make_reads (n : Nat) (h : n ≤ 1954687338268) (w : World) :
    (Instr.makeSlice 45 (.int .i64 0) (.int .i64 (n : Int))).run Yba.prog w = .ok (.slice (some ⟨w.heap.size, 0, none⟩) 0 n) (w.alloc (.cells (madeCells #[.pointer none] n) 47)) := by
  obtain ⟨i0, hi, hz0, hz1, hz2⟩ := info_parts info47
  have hb' : (i0.bytes : Int) * (n : Int) ≤ 281474976710656 := by rw [hz2]; omega
  have hr := run_make (P := Yba.prog) w 45 47 i0 _ Yba.underlying45 hi hz0 .i64 .i64 0 n (by omega) (by omega) hb' (by omega)
  simp only [Int.toNat_natCast, hz1, Nat.mul_one] at hr
  exact hr
theorem own_made (w : World) (n : Nat) (h : n ≤ 1954687338268) : (w.alloc (.cells (madeCells #[Value.pointer none] n) 47)).ownsRow w.heap.size 47 1 (.slice (some ⟨w.heap.size, 0, none⟩) 0 n) 0 [] :=
  ⟨rfl, .inr ⟨w.heap.size, n, _, rfl, Nat.le_refl _, alloc_last _ _, Nat.zero_le _, by unfold maxLen; omega, by simp [madeCells], by simp⟩⟩
theorem own_prow {w : World} {base g n cr : Nat} {rds : List Nat} (h : w.ownsRow base 47 1 (.slice (some ⟨g, 0, none⟩) n cr) n (rds.map ptr)) : PRow w g rds ∧ base ≤ g := by
  rcases h.2 with ⟨h1, _⟩ | ⟨g', cap, cur, hv, hb, hg, _, _, _, ht⟩
  · cases h1
  · cases hv
    refine ⟨⟨cur.toList.drop n, ?_⟩, hb⟩
    rw [hg, ← ht, Nat.mul_one, List.take_append_drop]

/-- A stop on the way through a round: m blocks more than at w4. -/
structure Stop (W0 w4 w : World) (r0 N po m : Nat) (f8 f9 f11 f12 f13 : Nat → Value) (E : List (Nat × Nat)) : Prop where
  six : Six w r0 N f8 f9 f11 f12 f13 E
  keep : ∀ k, r0 + 6 ≤ k → k < po → w.heap[k]? = w4.heap[k]?
  size : w.heap.size = po + m
  bel : Below W0.heap.size W0 w
section
variable {W0 w4 w : World} {r0 N po m i : Nat} {f8 f9 f11 f12 f13 : Nat → Value} {E E' : List (Nat × Nat)}
theorem Stop.alloc (h : Stop W0 w4 w r0 N po m f8 f9 f11 f12 f13 E) (o : Obj) {m' : Nat} (hm : m' = m + 1) : Stop W0 w4 (w.alloc o) r0 N po m' f8 f9 f11 f12 f13 E :=
  ⟨h.six.grown (World.grownBy_alloc w o none) (fun g hg => by cases hg), fun k h1 h2 => by rw [(World.grownBy_alloc w o none).block k (by rw [h.size]; omega) (by simp)]; exact h.keep k h1 h2, by show (w.heap.push o).size = _; rw [Array.size_push, h.size, hm]; rfl, below_grown h.bel (World.grownBy_alloc w o none) (fun g hg => by cases hg) h.bel.size⟩
theorem Stop.turn (h : Stop W0 w4 w r0 N po m f8 f9 f11 f12 f13 E) {w' : World} {g8 g9 g11 g12 g13 : Nat → Value} (hs : Six w' r0 N g8 g9 g11 g12 g13 E') {row : Nat} (hg : w.grownBy w' (some row)) (hsz : w'.heap.size = w.heap.size) (h1 : r0 ≤ row) (h2 : row < r0 + 6) (h0 : W0.heap.size ≤ r0) : Stop W0 w4 w' r0 N po m g8 g9 g11 g12 g13 E' :=
  ⟨hs, fun k h3 h4 => by rw [hg.block k (by rw [h.size]; omega) (fun e => by have := Option.some.inj e; omega)]; exact h.keep k h3 h4, by rw [hsz]; exact h.size, below_grown h.bel hg (fun g hg => by cases hg; omega) h.bel.size⟩
theorem Stop.own (h : Stop W0 w4 w r0 N po m f8 f9 f11 f12 f13 E) {w' : World} {row : Nat} (hg : w.grownBy w' (some row)) (hsz : w'.heap.size = w.heap.size) (h1 : po ≤ row) (hh : r0 + 6 ≤ po) (h0 : W0.heap.size ≤ r0) : Stop W0 w4 w' r0 N po m f8 f9 f11 f12 f13 E :=
  ⟨h.six.grown hg (fun g hg => by cases hg; omega), fun k h3 h4 => by rw [hg.block k (by rw [h.size]; omega) (fun e => by have := Option.some.inj e; omega)]; exact h.keep k h3 h4, by rw [hsz]; exact h.size, below_grown h.bel hg (fun g hg => by cases hg; omega) h.bel.size⟩
theorem set_size (w : World) (a : Addr) (v : Value) : (w.setCell a v).heap.size = w.heap.size := by simp [World.setCell]
theorem stop8 {o : Obj} (hw : w = (w4.setCell ⟨r0, i, none⟩ (ptr po)).alloc o) (hpo : po = w4.heap.size) (hs : Six w4 r0 N f8 f9 f11 f12 f13 E) (hi : i < N) (hB : Below W0.heap.size W0 w4) (h0 : W0.heap.size ≤ r0) :
    Stop W0 w4 w r0 N po 1 (upd f8 i (ptr po)) f9 f11 f12 f13 E ∧ w.heap[po]? = some o := by
  have hl := hs.lt
  have h1 : Stop W0 w4 w4 r0 N po 0 f8 f9 f11 f12 f13 E := ⟨hs, fun _ _ _ => rfl, hpo.symm, hB⟩
  have h2 := h1.turn (hs.set8 i (ptr po) hi) (grown_setCell w4 r0 i _) (set_size _ _ _) (Nat.le_refl _) (by omega) h0
  rw [hw]
  refine ⟨h2.alloc o rfl, ?_⟩
  have h3 := alloc_last (w4.setCell ⟨r0, i, none⟩ (ptr po)) o
  rw [set_size, ← hpo] at h3
  exact h3
end
abbrev ooObj (pu n g rl cr : Nat) : Obj := .cells #[.pointer none, .slice (some ⟨pu, 0, none⟩) n n, .slice none 0 0, .slice (some ⟨g, 0, none⟩) rl cr, .pointer none, .slice none 0 0, .slice none 0 0, .int .i64 0] 72
abbrev colObj (p : Nat) : Obj := .cells #[.pointer (some ⟨p, 0, none⟩), .slice none 0 0, .slice none 0 0, .slice none 0 0] 76
/-- The object, its orderObject, its collectedObject. -/
structure Blk3 (w : World) (po : Nat) (o1 o2 : Obj) : Prop where
  b0 : ∃ cs, w.heap[po]? = some (.cells cs 65 (0, 0))
  b1 : w.heap[po + 1]? = some o1
  b2 : w.heap[po + 2]? = some o2
theorem Blk3.same {w w' : World} {po : Nat} {o1 o2 : Obj} (h : Blk3 w po o1 o2) (hk : ∀ k, po ≤ k → k < po + 3 → k < w.heap.size → w'.heap[k]? = w.heap[k]?) : Blk3 w' po o1 o2 := by
  obtain ⟨cs, h0⟩ := h.b0
  exact ⟨⟨cs, (hk po (by omega) (by omega) (lt_of_block h0)).trans h0⟩, (hk _ (by omega) (by omega) (lt_of_block h.b1)).trans h.b1, (hk _ (by omega) (by omega) (lt_of_block h.b2)).trans h.b2⟩
theorem Blk3.set {w : World} {po b k : Nat} {o1 o2 : Obj} {v : Value} (h : Blk3 w po o1 o2) (hb : b < po) : Blk3 (w.setCell ⟨b, k, none⟩ v) po o1 o2 := h.same fun j h1 _ h3 => set_block _ _ _ j _ h3 (by omega)
theorem Blk3.grown {w w' : World} {po b : Nat} {o1 o2 : Obj} (h : Blk3 w po o1 o2) (hg : w.grownBy w' (some b)) (hb : b < po ∨ po + 3 ≤ b) : Blk3 w' po o1 o2 := h.same fun j _ _ h3 => hg.block j h3 (fun e => by have := Option.some.inj e; omega)
theorem Blk3.alloc {w : World} {po m : Nat} {o1 o2 o : Obj} (h : Blk3 w po o1 o2) (_hs : w.heap.size = po + m) : Blk3 (w.alloc o) po o1 o2 := h.same fun j _ _ h3 => (World.grownBy_alloc w o none).block j h3 (by simp)
theorem blk3 {w : World} {po : Nat} {cs : Array Value} {o1 o2 : Obj} (hs : w.heap.size = po + 1) (h0 : w.heap[po]? = some (.cells cs 65 (0, 0))) : Blk3 ((w.alloc o1).alloc o2) po o1 o2 := by
  have hs2 : (w.alloc o1).heap.size = po + 2 := by show (w.heap.push o1).size = _; rw [Array.size_push, hs]
  have h1 := alloc_last w o1
  have h2 := alloc_last (w.alloc o1) o2
  rw [hs] at h1
  rw [hs2] at h2
  refine ⟨⟨cs, ?_⟩, ?_, h2⟩
  · rw [(World.grownBy_alloc (w.alloc o1) o2 none).block po (by omega) (by simp), (World.grownBy_alloc w o1 none).block po (by omega) (by simp)]; exact h0
  · rw [(World.grownBy_alloc (w.alloc o1) o2 none).block (po + 1) (by omega) (by simp)]; exact h1
theorem two_rows {w : World} {po n : Nat} (hs : w.heap.size = po + 4) : RowF ((w.alloc (.cells (madeCells #[Value.slice none 0 0] n) 27)).alloc (.cells (madeCells #[Value.slice none 0 0] n) 55)) (po + 4) 27 n (fun _ => .slice none 0 0) ∧ RowF ((w.alloc (.cells (madeCells #[Value.slice none 0 0] n) 27)).alloc (.cells (madeCells #[Value.slice none 0 0] n) 55)) (po + 5) 55 n (fun _ => .slice none 0 0) := by
  have hs2 : (w.alloc (.cells (madeCells #[Value.slice none 0 0] n) 27)).heap.size = po + 5 := by show (w.heap.push _).size = _; rw [Array.size_push, hs]
  have h1 : RowF (w.alloc (.cells (madeCells #[Value.slice none 0 0] n) 27)) w.heap.size 27 n (fun _ => .slice none 0 0) := World.rowIs_made _ _ _ _
  have h2 : RowF ((w.alloc (.cells (madeCells #[Value.slice none 0 0] n) 27)).alloc (.cells (madeCells #[Value.slice none 0 0] n) 55)) (w.alloc (.cells (madeCells #[Value.slice none 0 0] n) 27)).heap.size 55 n (fun _ => .slice none 0 0) := World.rowIs_made _ _ _ _
  rw [hs] at h1
  rw [hs2] at h2
  exact ⟨h1.grown (World.grownBy_alloc _ _ none) (by simp), h2⟩
theorem info27 : (Yba.prog.info? 27).map (fun i => (i.zero, i.size, i.bytes)) = some (some (.slice none 0 0), 1, 24) := by kernel_rfl
theorem info55 : (Yba.prog.info? 55).map (fun i => (i.zero, i.size, i.bytes)) = some (some (.slice none 0 0), 1, 24) := by kernel_rfl
theorem copy_reads (we wf : World) (ty : TypeId) (g n cr : Nat) (rds : List Nat) (hwf : wf = we.alloc (.cells (madeCells #[Value.pointer none] n) 47)) (hg : PRow we g rds) (hl : rds.length = n) :
    (Builtin.copy_ #[45, 45] ty #[.slice (some ⟨we.heap.size, 0, none⟩) n n, .slice (some ⟨g, 0, none⟩) n cr]).run Yba.prog wf = .ok (.int .i64 (n : Nat)) (wf.setRow we.heap.size (rds.map ptr).toArray) := by
  have hR : RowF wf we.heap.size 47 n (fun _ => .pointer none) := by rw [hwf]; exact World.rowIs_made _ _ _ _
  obtain ⟨arr, h1, h2, _⟩ := hR
  have hg' : PRow wf g rds := by rw [hwf]; exact hg.block ((World.grownBy_alloc we _ none).block g hg.lt (by simp))
  obtain ⟨sp, hg'⟩ := hg'
  have hnews : ∀ j v, (rds.map ptr)[j]? = some v → wf.cell? ((⟨g, 0, none⟩ : Addr).add j) = some v := fun j v hv => World.news_of_block hg' j v (by
    rw [List.getElem?_append_left]
    · exact hv
    · rcases Nat.lt_or_ge j (rds.map ptr).length with h3 | h3
      · exact h3
      · rw [List.getElem?_eq_none h3] at hv; cases hv)
  have h3 := run_copy_row (P := Yba.prog) wf 45 45 ty 47 we.heap.size 0 n n ⟨g, 0, none⟩ n cr arr 47 (rds.map ptr) Yba.underlying45 (by kernel_rfl) h1 (by simp [hl]) hnews (by simp; omega) (by simp [Value.oneCell'])
  have e : arr.toList.take 0 ++ rds.map ptr ++ arr.toList.drop (0 + (rds.map ptr).length) = rds.map ptr := by simp [hl, h2]
  rw [e, List.length_map, hl] at h3
  exact h3
/-- 'm[o] = c', o a new key; no block more. -/
theorem PMap.update2 {w : World} {mb : Nat} {E : List (Nat × Nat)} (h : PMap w mb E) (o c : Nat) (ho : Cells w o) (hE : ∀ p ∈ E, Cells w p.1) (hnew : E.lookup o = none) :
    ∃ w', (Instr.mapUpdate 32 (.map (some mb)) (ptr o) (ptr c)).run Yba.prog w = .ok () w' ∧ PMap w' mb (E ++ [(o, c)]) ∧ w.grownBy w' (some mb) ∧ w'.heap.size = w.heap.size := by
  have hlt := h.lt
  obtain ⟨es, clock, hh, he⟩ := h
  have hm : Yba.prog.underlying 32 = some (.map 50 66) := Yba.underlying32
  obtain ⟨r, h1, h2⟩ := findKey_ptr w o ho es.toList E he hE
  cases r with
  | some z => rw [hnew] at h2; simp at h2
  | none =>
    refine ⟨{ w with heap := w.heap.setIfInBounds mb (.map (es.push ⟨ptr o, ptr c, clock⟩) (clock + 1)) }, ?_, ⟨es.push ⟨ptr o, ptr c, clock⟩, clock + 1, ?_, ?_⟩, ⟨rfl, rfl, rfl, by simp, ?_⟩, by simp⟩
    · simp [Instr.mapUpdate, run_underlying hm, MapKept.run_getObj_map hh, checkKey_ptr, h1, MapKept.run_setObj_map _ hh, Result.andThen]
    · simp [hlt]
    · simp [he]
    · intro k hk hne
      simp only [Array.getElem?_setIfInBounds]
      rw [if_neg (fun e => hne (by rw [e]))]

set_option maxHeartbeats 4000000 in
set_option maxRecDepth 100000 in
theorem loop3 (x : Nat → Value) (w W0 : World) (Q : Exit → Act → World → Prop) (r0 N cO : Nat) (ao : Option Addr) (D : Nat → ObIn) (ob0 : Nat → OG) (cg0 : Nat → CG) (h0 : x 0 = .slice ao N cO) (h8 : x 8 = .slice (some ⟨r0, 0, none⟩) N N) (h9 : x 9 = .slice (some ⟨r0 + 1, 0, none⟩) N N) (h10 : x 10 = .map (some (r0 + 2))) (h11 : x 11 = .slice (some ⟨r0 + 3, 0, none⟩) N N) (h12 : x 12 = .slice (some ⟨r0 + 4, 0, none⟩) N N) (h13 : x 13 = .slice (some ⟨r0 + 5, 0, none⟩) N N) (h157 : x 157 = .int .i64 (N : Nat)) (h14 : x 14 = .int .i64 0) (h158 : x 158 = .int .i64 0)
    (hO : ObsAt W0 ao N D) (hBel : Below W0.heap.size W0 w) (hr0 : W0.heap.size ≤ r0) (hN : N ≤ 4096) (hB0 : Built D r0 N 0 (fun _ => none) (fun _ => 0) (fun _ => 0) (fun _ => RK.none) ob0 cg0 [] w)
    (hexit : ∀ x' w' (G : Nat → Option Gh) (kf kl : Nat → Int) (rk : Nat → RK) (ob : Nat → OG) (cg : Nat → CG) (E : List (Nat × Nat)), Live [(0, x 0), (1, x 1), (8, x 8), (9, x 9), (10, x 10), (11, x 11), (12, x 12), (13, x 13), (157, x 157)] x' → x' 14 = .int .i64 (E.length : Nat) → Below W0.heap.size W0 w' → Built D r0 N N G kf kl rk ob cg E w' → Q (.exit 4) ⟨frame x', []⟩ w') :
    Code.wp Yba.prog (.loop (loopAt Yba.f3 2)) Q ⟨frame x, []⟩ w := by
  refine wp_loop (fun a w' => ∃ (x' : Nat → Value), a = ⟨frame x', []⟩ ∧ ∃ (i : Nat) (G : Nat → Option Gh) (kf kl : Nat → Int) (rk : Nat → RK) (ob : Nat → OG) (cg : Nat → CG) (E : List (Nat × Nat)), Live [(0, x 0), (1, x 1), (8, x 8), (9, x 9), (10, x 10), (11, x 11), (12, x 12), (13, x 13), (157, x 157)] x' ∧ x' 158 = .int .i64 (i : Nat) ∧ x' 14 = .int .i64 (E.length : Nat) ∧ i ≤ N ∧ Below W0.heap.size W0 w' ∧ Built D r0 N i G kf kl rk ob cg E w') (fun a _ => N - (intOf (a.tmps.getD 158 (.bool false))).toNat) ⟨x, rfl, 0, _, _, _, _, ob0, cg0, [], live_cons (rfl) (live_cons (rfl) (live_cons (rfl) (live_cons (rfl) (live_cons (rfl) (live_cons (rfl) (live_cons (rfl) (live_cons (rfl) (live_cons (rfl) (live_nil _))))))))), h158, h14, by omega, hBel, hB0⟩ ?_
  clear hBel hB0 h14 h158
  rintro a w' ⟨x', rfl, i, G, kf, kl, rk, ob, cg, E, hl, o158, o14, hi, hBel', hBt⟩
  have e0 := (hl.head).trans h0
  have e1 := hl.tail.head
  have e8 := (hl.tail.tail.head).trans h8
  have e9 := (hl.tail.tail.tail.head).trans h9
  have e10 := (hl.tail.tail.tail.tail.head).trans h10
  have e11 := (hl.tail.tail.tail.tail.tail.head).trans h11
  have e12 := (hl.tail.tail.tail.tail.tail.tail.head).trans h12
  have e13 := (hl.tail.tail.tail.tail.tail.tail.tail.head).trans h13
  have e157 := (hl.tail.tail.tail.tail.tail.tail.tail.tail.head).trans h157
  rw [frame_lit, e0, e1, e8, e9, e10, e11, e12, e13, e157, o158, o14]
  clear e0 e1 e8 e9 e10 e11 e12 e13 e157 hl o158 o14
  conv => arg 2; whnf
  have H0 : Hid (x 0 = .slice ao N cO) := h0
  have H8 : Hid (x 8 = .slice (some ⟨r0, 0, none⟩) N N) := h8
  have H9 : Hid (x 9 = .slice (some ⟨r0 + 1, 0, none⟩) N N) := h9
  have H10 : Hid (x 10 = .map (some (r0 + 2))) := h10
  have H11 : Hid (x 11 = .slice (some ⟨r0 + 3, 0, none⟩) N N) := h11
  have H12 : Hid (x 12 = .slice (some ⟨r0 + 4, 0, none⟩) N N) := h12
  have H13 : Hid (x 13 = .slice (some ⟨r0 + 5, 0, none⟩) N N) := h13
  have H157 : Hid (x 157 = .int .i64 (N : Nat)) := h157
  clear h0 h8 h9 h10 h11 h12 h13 h157
  by_cases hlt : i < N
  · skip
    obtain ⟨sb, so, hao, hOi⟩ := hO i hlt
    subst hao
    have c1 := (hOi.below hBel' (Nat.le_refl _)).c1
    have hv0 := hOi.n0
    have hub := hOi.rb
    obtain ⟨n, hn⟩ : ∃ n : Nat, n = (D i).n8.toNat % 8 + 1 := ⟨_, rfl⟩
    have hnI : (D i).n8 % 8 + 1 = (n : Int) := by omega
    have hn8 : n ≤ 8 := by omega
    have hn1 : 0 < n := by omega
    have Hn : Hid (n = (D i).n8.toNat % 8 + 1) := hn
    clear hn
    obtain ⟨v, hv⟩ : ∃ v, v = (D i).n8 := ⟨_, rfl⟩
    rw [← hv] at c1 hv0 hnI
    clear hv
    have i1 : (i : Int) < (N : Int) := by omega
    go_upto_region 28 with fail
    clear c1 hv0 hnI
    have hmk := run_make_row' (P := Yba.prog) 37 38 (.slice none 0 0) 24 Yba.underlying37 info38 rfl .i64 .i64 n (by omega) (by omega)
    go_wp2
    obtain ⟨w1, hw1⟩ : ∃ w1, w1 = w'.alloc (.cells (madeCells #[Value.slice none 0 0] n) 38) := ⟨_, rfl⟩
    have hR1 : RowF w1 w'.heap.size 38 n (fun _ => .slice none 0 0) := by rw [hw1]; exact World.rowIs_made _ _ _ _
    have hg1 : w'.grownBy w1 none := by rw [hw1]; exact World.grownBy_alloc _ _ _
    rw [← hw1]
    clear hw1 hmk
    obtain ⟨pu, hpu⟩ : ∃ pu, pu = w'.heap.size := ⟨_, rfl⟩
    have Hpu : Hid (pu = w'.heap.size) := hpu
    rw [← hpu] at hR1 ⊢
    clear hpu
    refine wp_frame rfl (fun x1 hx => ?_)
    refine loop4 x1 w1 W0 _ sb (so + i * 4) pu n (D i) (hx 16) (hx 17) (hx 18) (hx 19) _ hR1 hn8 hOi (below_grown hBel' hg1 (fun g hg => by cases hg) hBel'.size) (by rw [Hpu.out]; exact hBel'.size) ?_
    rintro x2 w2 hl2 hg2 ⟨fu, hRu, hfu⟩
    have e0 : x2 0 = .slice (some ⟨sb, so, none⟩) N cO := (hl2.head).trans (hx 0)
    have e1 : x2 1 = x 1 := (hl2.tail.head).trans (hx 1)
    have e8 : x2 8 = .slice (some ⟨r0, 0, none⟩) N N := (hl2.tail.tail.head).trans (hx 8)
    have e9 : x2 9 = .slice (some ⟨r0 + 1, 0, none⟩) N N := (hl2.tail.tail.tail.head).trans (hx 9)
    have e10 : x2 10 = .map (some (r0 + 2)) := (hl2.tail.tail.tail.tail.head).trans (hx 10)
    have e11 : x2 11 = .slice (some ⟨r0 + 3, 0, none⟩) N N := (hl2.tail.tail.tail.tail.tail.head).trans (hx 11)
    have e12 : x2 12 = .slice (some ⟨r0 + 4, 0, none⟩) N N := (hl2.tail.tail.tail.tail.tail.tail.head).trans (hx 12)
    have e13 : x2 13 = .slice (some ⟨r0 + 5, 0, none⟩) N N := (hl2.tail.tail.tail.tail.tail.tail.tail.head).trans (hx 13)
    have e14 : x2 14 = .int .i64 (E.length : Nat) := (hl2.tail.tail.tail.tail.tail.tail.tail.tail.head).trans (hx 14)
    have e15 : x2 15 = .int .i64 (i : Nat) := (hl2.tail.tail.tail.tail.tail.tail.tail.tail.tail.head).trans (hx 15)
    have e16 : x2 16 = .pointer (some ⟨sb, so + i * 4, none⟩) := (hl2.tail.tail.tail.tail.tail.tail.tail.tail.tail.tail.head).trans (hx 16)
    have e17 : x2 17 = .int .i64 (n : Nat) := (hl2.tail.tail.tail.tail.tail.tail.tail.tail.tail.tail.tail.head).trans (hx 17)
    have e18 : x2 18 = .slice (some ⟨pu, 0, none⟩) n n := (hl2.tail.tail.tail.tail.tail.tail.tail.tail.tail.tail.tail.tail.head).trans (hx 18)
    have e157 : x2 157 = .int .i64 (N : Nat) := (hl2.tail.tail.tail.tail.tail.tail.tail.tail.tail.tail.tail.tail.tail.head).trans (hx 157)
    have e158 : x2 158 = .int .i64 (i : Nat) := (hl2.tail.tail.tail.tail.tail.tail.tail.tail.tail.tail.tail.tail.tail.tail.head).trans (hx 158)
    rw [frame_lit, e0, e1, e8, e9, e10, e11, e12, e13, e14, e15, e16, e17, e18, e157, e158]
    clear e0 e1 e8 e9 e10 e11 e12 e13 e14 e15 e16 e17 e18 e157 e158 hl2 hx
    have hgw2 : w'.grownBy w2 none := grown_then hg1 hg2 (fun q hq => by cases hq; left; rw [Hpu.out]; exact Nat.le_refl _)
    have hB2 : Below W0.heap.size W0 w2 := below_grown hBel' hgw2 (fun g hg => by cases hg) hBel'.size
    have Hfu : Hid (∀ k, k < n → ∃ a, fu k = .slice (some ⟨a, 0, none⟩) (updLen (D i) k) (updLen (D i) k)) := hfu
    clear hg1 hg2 hR1 hfu
    have c3 := (hOi.below hB2 (Nat.le_refl _)).c3
    have hmk2 := run_make_reads (D i).rl hub
    go_upto_region 40 with fail
    obtain ⟨w3, hw3⟩ : ∃ w3, w3 = w2.alloc (.cells (madeCells #[Value.pointer none] (D i).rl) 47) := ⟨_, rfl⟩
    have hg3 : w2.grownBy w3 none := by rw [hw3]; exact World.grownBy_alloc _ _ _
    have hown3 : w3.ownsRow w2.heap.size 47 1 (.slice (some ⟨w2.heap.size, 0, none⟩) 0 (D i).rl) 0 [] := by rw [hw3]; exact own_made w2 (D i).rl hub
    have hsz3 : w3.heap.size = w2.heap.size + 1 := by rw [hw3]; show (w2.heap.push _).size = _; simp
    rw [← hw3]
    clear hw3 hmk2
    obtain ⟨pr, hpr⟩ : ∃ pr, pr = w2.heap.size := ⟨_, rfl⟩
    have Hpr : Hid (pr = w2.heap.size) := hpr
    rw [← hpr] at hown3 hsz3 ⊢
    clear hpr
    have hB3 : Below W0.heap.size W0 w3 := below_grown hB2 hg3 (fun g hg => by cases hg) hB2.size
    have c3' := (hOi.below hB3 (Nat.le_refl _)).c3
    clear c3
    go_wp2
    refine wp_frame rfl (fun x1 hx => ?_)
    refine loop6 x1 w3 W0 _ sb (so + i * 4) pr n i (D i).rl (D i) (hx 16) (hx 17) (hx 207) (hx 208) (hx 22) hown3 hn8 hn1 hOi hB3 (by rw [Hpr.out]; exact hB2.size) hsz3 ?_
    rintro x2 w4 G1 kf1 kl1 rk1 rds hl2 hg4 hRd hlen hown4 hGn ⟨g, cr, e22⟩
    rw [e22] at hown4 hGn
    have e0 : x2 0 = .slice (some ⟨sb, so, none⟩) N cO := (hl2.head).trans (hx 0)
    have e1 : x2 1 = x 1 := (hl2.tail.head).trans (hx 1)
    have e8 : x2 8 = .slice (some ⟨r0, 0, none⟩) N N := (hl2.tail.tail.head).trans (hx 8)
    have e9 : x2 9 = .slice (some ⟨r0 + 1, 0, none⟩) N N := (hl2.tail.tail.tail.head).trans (hx 9)
    have e10 : x2 10 = .map (some (r0 + 2)) := (hl2.tail.tail.tail.tail.head).trans (hx 10)
    have e11 : x2 11 = .slice (some ⟨r0 + 3, 0, none⟩) N N := (hl2.tail.tail.tail.tail.tail.head).trans (hx 11)
    have e12 : x2 12 = .slice (some ⟨r0 + 4, 0, none⟩) N N := (hl2.tail.tail.tail.tail.tail.tail.head).trans (hx 12)
    have e13 : x2 13 = .slice (some ⟨r0 + 5, 0, none⟩) N N := (hl2.tail.tail.tail.tail.tail.tail.tail.head).trans (hx 13)
    have e14 : x2 14 = .int .i64 (E.length : Nat) := (hl2.tail.tail.tail.tail.tail.tail.tail.tail.head).trans (hx 14)
    have e15 : x2 15 = .int .i64 (i : Nat) := (hl2.tail.tail.tail.tail.tail.tail.tail.tail.tail.head).trans (hx 15)
    have e16 : x2 16 = .pointer (some ⟨sb, so + i * 4, none⟩) := (hl2.tail.tail.tail.tail.tail.tail.tail.tail.tail.tail.head).trans (hx 16)
    have e17 : x2 17 = .int .i64 (n : Nat) := (hl2.tail.tail.tail.tail.tail.tail.tail.tail.tail.tail.tail.head).trans (hx 17)
    have e18 : x2 18 = .slice (some ⟨pu, 0, none⟩) n n := (hl2.tail.tail.tail.tail.tail.tail.tail.tail.tail.tail.tail.tail.head).trans (hx 18)
    have e157 : x2 157 = .int .i64 (N : Nat) := (hl2.tail.tail.tail.tail.tail.tail.tail.tail.tail.tail.tail.tail.tail.head).trans (hx 157)
    have e158 : x2 158 = .int .i64 (i : Nat) := (hl2.tail.tail.tail.tail.tail.tail.tail.tail.tail.tail.tail.tail.tail.tail.head).trans (hx 158)
    have e207 : x2 207 = .int .i64 ((D i).rl : Nat) := (hl2.tail.tail.tail.tail.tail.tail.tail.tail.tail.tail.tail.tail.tail.tail.tail.head).trans (hx 207)
    rw [frame_lit, e0, e1, e8, e9, e10, e11, e12, e13, e14, e15, e16, e17, e18, e157, e158, e207, e22]
    clear e0 e1 e8 e9 e10 e11 e12 e13 e14 e15 e16 e17 e18 e157 e158 e207 e22 hl2 hx
    clear c3' hown3
    have hgw4 : w'.grownBy w4 none := grown_then (grown_then hgw2 hg3 (fun q hq => by cases hq)) hg4 (fun q hq => by cases hq; left; rw [Hpr.out]; exact hgw2.size)
    have hS4 := hBt.six.grown hgw4 (fun g hg => by cases hg)
    have hB4 : Below W0.heap.size W0 w4 := below_grown hBel' hgw4 (fun g hg => by cases hg) hBel'.size
    have hru4 : RowF w4 pu 38 n fu := (hRu.grown hg3 (by simp)).grown hg4 (fun e => by have h1 := hRu.rowB.lt; have h2 := Option.some.inj e; rw [h2, Hpr.out] at h1; exact absurd h1 (Nat.lt_irrefl _))
    have hgrow4 : PRow w4 g rds ∧ pr ≤ g := own_prow hown4
    have hG1g : G1 g = none := hGn g rfl
    have hpu2 : pu < pr := by rw [Hpr.out]; exact hRu.rowB.lt
    have hs4 : w3.heap.size ≤ w4.heap.size := hg4.size
    clear hRu hg3 hg4 hgw2 hown4 hGn hB2 hB3
    obtain ⟨cv8, c8⟩ := hS4.r8.rowB.cell i hlt
    have f8 := hS4.r8.rowB.frozen i
    have l8 := hS4.r8.rowB.lt
    go_upto_region 70 with fail
    obtain ⟨po, hpo⟩ : ∃ po, po = w4.heap.size := ⟨_, rfl⟩
    have Hpo : Hid (po = w4.heap.size) := hpo
    rw [← hpo]
    obtain ⟨wb, hwb⟩ : ∃ wb, wb = (w4.setCell ⟨r0, i, none⟩ (ptr po)).alloc (.cells #[.string { data := #[] }, .pointer none] 65) := ⟨_, rfl⟩
    obtain ⟨HSb, hb0⟩ := stop8 hwb hpo hS4 hlt hB4 hr0
    have hh : r0 + 6 ≤ po := by rw [hpo]; exact hS4.lt
    rw [← hwb]
    clear hwb hpo c8 f8 l8 hB4 cv8
    obtain ⟨cv9, c9⟩ := HSb.six.r9.rowB.cell i hlt
    have f9 := HSb.six.r9.rowB.frozen i
    have l9 := HSb.six.r9.rowB.lt
    go_upto_region 71 with fail
    rw [HSb.size]
    rw [show po + 1 + 1 = po + 2 from rfl]
    obtain ⟨wc, hwc⟩ : ∃ wc, wc = (wb.alloc (ooObj pu n g (D i).rl cr)).alloc (colObj (po + 1)) := ⟨_, rfl⟩
    have HSc := (HSb.alloc (ooObj pu n g (D i).rl cr) (m' := 2) rfl).alloc (colObj (po + 1)) (m' := 3) rfl
    rw [← hwc] at HSc
    have hbc : Blk3 wc po (ooObj pu n g (D i).rl cr) (colObj (po + 1)) := by rw [hwc]; exact blk3 HSb.size hb0
    rw [← hwc]
    clear hwc c9 f9 l9 cv9 HSb hb0
    obtain ⟨cv9, c9⟩ := HSc.six.r9.rowB.cell i hlt
    have f9 := HSc.six.r9.rowB.frozen i
    have l9 := HSc.six.r9.rowB.lt
    go_upto_region 72 with fail
    obtain ⟨wd, hwd⟩ : ∃ wd, wd = wc.setCell ⟨r0 + 1, i, none⟩ (ptr (po + 2)) := ⟨_, rfl⟩
    have HSd := HSc.turn (HSc.six.set9 i (ptr (po + 2)) hlt) (grown_setCell _ _ _ _) (set_size _ _ _) (by omega) (by omega) hr0
    rw [← hwd] at HSd
    have hbd : Blk3 wd po (ooObj pu n g (D i).rl cr) (colObj (po + 1)) := by rw [hwd]; exact hbc.set (by omega)
    rw [← hwd]
    clear hwd c9 f9 l9 cv9 HSc hbc
    have cPr := (hOi.below HSd.bel (Nat.le_refl _)).c0
    have hEl : E.length ≤ 4096 := by have := hBt.few; omega
    cases hpres : (D i).present with
    | true =>
      rw [hpres] at cPr
      have hkd : ∀ p ∈ E, Cells wd p.1 := fun p hp => by
        obtain ⟨cs, t, h1⟩ := hBt.keys p hp
        have h2 := hBt.mem.lt h1
        exact ⟨cs, t, by rw [HSd.keep p.1 (hBt.lo _ _ h1) (by have := Hpo.out; have := hgw4.size; omega), hgw4.block p.1 h2 (by simp)]; exact hBt.mem _ _ h1⟩
      have hnk : E.lookup po = none := lookup_none _ _ (fun p hp e => by
        obtain ⟨cs, t, h1⟩ := hBt.keys p hp
        have h2 := hBt.mem.lt h1
        have := Hpo.out; have := hgw4.size; omega)
      obtain ⟨ob1, hb1⟩ := hbd.b0
      obtain ⟨we, hup, hPM, hgm, hsz⟩ := HSd.six.mp.update2 po (po + 2) ⟨ob1, _, hb1⟩ hkd hnk
      have HSe := HSd.turn (HSd.six.map hgm hPM) hgm hsz (by omega) (by omega) hr0
      have hbe : Blk3 we po (ooObj pu n g (D i).rl cr) (colObj (po + 1)) := hbd.grown hgm (by omega)
      clear hkd hnk hPM hgm hsz HSd hbd hb1
      go_upto_region 75 with fail
      clear hup cPr
      have hge : PRow we g rds := hgrow4.1.block (HSe.keep g (by have := HSe.six.lt; have := Hpu.out; have := hBt.six.lt; have := hgrow4.2; omega) (by have := hgrow4.1.lt; have := Hpo.out; omega))
      have hmk3 := run_make_row' (P := Yba.prog) 45 47 (.pointer none) 8 Yba.underlying45 info47 rfl .i64 .i64 (D i).rl (by omega) (by omega)
      go_upto_region 76 with fail
      obtain ⟨wf, hwf⟩ : ∃ wf, wf = we.alloc (.cells (madeCells #[Value.pointer none] (D i).rl) 47) := ⟨_, rfl⟩
      have HSf := HSe.alloc (.cells (madeCells #[Value.pointer none] (D i).rl) 47) (m' := 4) rfl
      rw [← hwf] at HSf
      have hcp := fun ty => copy_reads we wf ty g (D i).rl cr rds hwf hge hlen
      have hrf : wf.heap[we.heap.size]? = some (.cells (madeCells #[Value.pointer none] (D i).rl) 47 (0, 0)) := by rw [hwf]; exact alloc_last _ _
      have hbf : Blk3 wf po (ooObj pu n g (D i).rl cr) (colObj (po + 1)) := by rw [hwf]; exact hbe.alloc HSe.size
      rw [← hwf]
      rw [HSe.size] at hcp hrf ⊢
      clear hwf hmk3 hbe
      go_upto_region 77 with fail
      obtain ⟨wg, hwg⟩ : ∃ wg, wg = wf.setRow (po + 3) (rds.map ptr).toArray := ⟨_, rfl⟩
      have HSg := HSf.own (grown_setRow wf (po + 3) (rds.map ptr).toArray) (by simp [World.setRow]) (by omega) hh hr0
      rw [← hwg] at HSg
      have hbg : Blk3 wg po (ooObj pu n g (D i).rl cr) (colObj (po + 1)) := by rw [hwg]; exact hbf.grown (grown_setRow _ _ _) (by omega)
      have hb3 : wg.heap[po + 3]? = some (.cells (rds.map ptr).toArray 47 (0, 0)) := by rw [hwg]; exact setRow_heap wf (po + 3) _ _ 47 (0, 0) hrf
      have HB3 : Hid (wg.heap[po + 3]? = some (.cells (rds.map ptr).toArray 47 (0, 0))) := hb3
      rw [← hwg]
      clear hwg hcp hrf hb3 HSf hbf HSe hge
      obtain ⟨cv11, c11⟩ := HSg.six.r11.rowB.cell i hlt
      have f11 := HSg.six.r11.rowB.frozen i
      go_upto_region 78 with fail
      obtain ⟨wh, hwh⟩ : ∃ wh, wh = wg.setCell ⟨r0 + 3, i, none⟩ (sl3 (po + 3) (D i).rl) := ⟨_, rfl⟩
      have HSh := HSg.turn (HSg.six.set11 i (sl3 (po + 3) (D i).rl) hlt) (grown_setCell _ _ _ _) (set_size _ _ _) (by omega) (by omega) hr0
      rw [← hwh] at HSh
      have hbh : Blk3 wh po (ooObj pu n g (D i).rl cr) (colObj (po + 1)) := by rw [hwh]; exact hbg.set (by omega)
      have HB3h : Hid (wh.heap[po + 3]? = some (.cells (rds.map ptr).toArray 47 (0, 0))) := by show _ = _; rw [hwh, set_block _ _ _ (po + 3) _ (lt_of_block HB3.out) (by omega)]; exact HB3.out
      rw [← hwh]
      clear hwh c11 f11 cv11 HSg hbg HB3
      have hmk4 := run_make_row' (P := Yba.prog) 77 27 (.slice none 0 0) 24 Yba.underlying77 info27 rfl .i64 .i64 (D i).rl (by omega) (by omega)
      have hmk5 := run_make_row' (P := Yba.prog) 74 55 (.slice none 0 0) 24 Yba.underlying74 info55 rfl .i64 .i64 (D i).rl (by omega) (by omega)
      go_wp2
      obtain ⟨wi, hwi⟩ : ∃ wi, wi = (wh.alloc (.cells (madeCells #[Value.slice none 0 0] (D i).rl) 27)).alloc (.cells (madeCells #[Value.slice none 0 0] (D i).rl) 55) := ⟨_, rfl⟩
      have HSi := (HSh.alloc (.cells (madeCells #[Value.slice none 0 0] (D i).rl) 27) (m' := 5) rfl).alloc (.cells (madeCells #[Value.slice none 0 0] (D i).rl) 55) (m' := 6) rfl
      rw [← hwi] at HSi
      have hbi : Blk3 wi po (ooObj pu n g (D i).rl cr) (colObj (po + 1)) := by rw [hwi]; exact (hbh.alloc HSh.size).alloc (HSh.alloc _ (m' := 5) rfl).size
      have hfi : RowF wi (po + 4) 27 (D i).rl (fun _ => .slice none 0 0) ∧ RowF wi (po + 5) 55 (D i).rl (fun _ => .slice none 0 0) := by rw [hwi]; exact two_rows HSh.size
      have HB3i : Hid (wi.heap[po + 3]? = some (.cells (rds.map ptr).toArray 47 (0, 0))) := by show _ = _; rw [hwi, (World.grownBy_alloc _ _ none).block (po + 3) (by rw [(HSh.alloc _ (m' := 5) rfl).size]; omega) (by simp), (World.grownBy_alloc wh _ none).block (po + 3) (lt_of_block HB3h.out) (by simp)]; exact HB3h.out
      rw [← hwi]
      rw [HSh.size]
      rw [show po + 4 + 1 = po + 5 from rfl]
      clear hwi hmk4 hmk5 HSh hbh HB3h
      have hgi : PRow wi g rds := hgrow4.1.block (HSi.keep g (by have := Hpu.out; have := hBt.six.lt; have := hgrow4.2; omega) (by have := hgrow4.1.lt; have := Hpo.out; omega))
      have hRdi : Reads G1 i n w3.heap.size kf1 kl1 rk1 (D i).rd rds wi := ⟨fun b y hy => Gh.at_block (hRd.mem b y hy) (HSi.keep b (by have := hRd.lo b y hy; have := Hpu.out; have := hBt.six.lt; omega) (by have := hRd.mem.lt hy; have := Hpo.out; omega)), hRd.lo, hRd.each, hRd.nodup⟩
      have hGf : ∀ k, po ≤ k → G1 k = none := fun k hk => hRd.mem.fresh (by have := Hpo.out; omega)
      have hglt : g < po := by have := hgrow4.1.lt; have := Hpo.out; omega
      refine wp_frame rfl (fun x1 hx => ?_)
      refine loop9 x1 wi _ i n w3.heap.size (po + 4) (po + 5) g (D i).rl cr G1 kf1 kl1 rk1 (D i).rd rds (hx 35) (hx 36) (hx 367) (hx 368) (hx 369) hRdi hlen hgi hn8 hub hfi.1 hfi.2 (hGf _ (by omega)) (hGf _ (by omega)) (by omega) (by omega) (by omega) ?_
      rintro x2 w9 hl2 ⟨G2, f, sv, hA⟩
      have e0 : x2 0 = .slice (some ⟨sb, so, none⟩) N cO := (hl2.head).trans (hx 0)
      have e1 : x2 1 = x 1 := (hl2.tail.head).trans (hx 1)
      have e8 : x2 8 = .slice (some ⟨r0, 0, none⟩) N N := (hl2.tail.tail.head).trans (hx 8)
      have e9 : x2 9 = .slice (some ⟨r0 + 1, 0, none⟩) N N := (hl2.tail.tail.tail.head).trans (hx 9)
      have e10 : x2 10 = .map (some (r0 + 2)) := (hl2.tail.tail.tail.tail.head).trans (hx 10)
      have e11 : x2 11 = .slice (some ⟨r0 + 3, 0, none⟩) N N := (hl2.tail.tail.tail.tail.tail.head).trans (hx 11)
      have e12 : x2 12 = .slice (some ⟨r0 + 4, 0, none⟩) N N := (hl2.tail.tail.tail.tail.tail.tail.head).trans (hx 12)
      have e13 : x2 13 = .slice (some ⟨r0 + 5, 0, none⟩) N N := (hl2.tail.tail.tail.tail.tail.tail.tail.head).trans (hx 13)
      have e14 : x2 14 = .int .i64 ((E.length : Int) + 1) := (hl2.tail.tail.tail.tail.tail.tail.tail.tail.head).trans (hx 14)
      have e15 : x2 15 = .int .i64 (i : Nat) := (hl2.tail.tail.tail.tail.tail.tail.tail.tail.tail.head).trans (hx 15)
      have e35 : x2 35 = .slice (some ⟨po + 4, 0, none⟩) (D i).rl (D i).rl := (hl2.tail.tail.tail.tail.tail.tail.tail.tail.tail.tail.head).trans (hx 35)
      have e36 : x2 36 = .slice (some ⟨po + 5, 0, none⟩) (D i).rl (D i).rl := (hl2.tail.tail.tail.tail.tail.tail.tail.tail.tail.tail.tail.head).trans (hx 36)
      have e157 : x2 157 = .int .i64 (N : Nat) := (hl2.tail.tail.tail.tail.tail.tail.tail.tail.tail.tail.tail.tail.head).trans (hx 157)
      have e158 : x2 158 = .int .i64 (i : Nat) := (hl2.tail.tail.tail.tail.tail.tail.tail.tail.tail.tail.tail.tail.tail.head).trans (hx 158)
      have e367 : x2 367 = .slice (some ⟨g, 0, none⟩) (D i).rl cr := (hl2.tail.tail.tail.tail.tail.tail.tail.tail.tail.tail.tail.tail.tail.tail.head).trans (hx 367)
      have e368 : x2 368 = .int .i64 ((D i).rl : Nat) := (hl2.tail.tail.tail.tail.tail.tail.tail.tail.tail.tail.tail.tail.tail.tail.tail.head).trans (hx 368)
      rw [frame_lit, e0, e1, e8, e9, e10, e11, e12, e13, e14, e15, e35, e36, e157, e158, e367, e368]
      clear e0 e1 e8 e9 e10 e11 e12 e13 e14 e15 e35 e36 e157 e158 e367 e368 hl2 hx
      have hS9 := HSi.six.blocks (w' := w9) fun k _ hk => hA.only.block k (by rw [HSi.size]; omega) (mark2_none (by omega) (by omega))
      have hB9 : Below W0.heap.size W0 w9 := HSi.bel.trans (hA.only.below HSi.bel.size (fun b y hy => by by_cases h : b = po + 4 ∨ b = po + 5; omega; rw [mark2, if_neg h] at hy; cases hy))
      obtain ⟨G', kf', kl', rk', ob', cg', hBn⟩ := round_done hBt hlt hgw4 hRd (by have := Hpu.out; omega) hlen Hn.out hn8 hub hru4 Hfu.out (Nat.le_of_eq Hpu.out.symm) (by omega) hgrow4.1 (by have := Hpu.out; have := hgrow4.2; omega) hG1g (by have := hgrow4.2; omega) Hpo.out (by rw [Hpo.out]; exact hs4) HSi.keep HSi.size hbi.b0.choose_spec hbi.b1 rfl (by rw [hlen]; rfl) hbi.b2 rfl HB3i.out (by rw [hlen]; exact hA) (by rw [hpres]) (by rw [hlen]; exact HSi.six)
      rw [hlen] at hBn
      have HBn : Hid (Built D r0 N (i + 1) G' kf' kl' rk' ob' cg' (E ++ [(po, po + 2)]) ((w9.setCell ⟨r0 + 4, i, none⟩ (sl3 (po + 4) (D i).rl)).setCell ⟨r0 + 5, i, none⟩ (sl3 (po + 5) (D i).rl))) := hBn
      have HBe : Hid (Below W0.heap.size W0 ((w9.setCell ⟨r0 + 4, i, none⟩ (sl3 (po + 4) (D i).rl)).setCell ⟨r0 + 5, i, none⟩ (sl3 (po + 5) (D i).rl))) := below_grown (below_grown hB9 (grown_setCell _ _ _ _) (fun q hq => by cases hq; omega) hB9.size) (grown_setCell _ _ _ _) (fun q hq => by cases hq; omega) (by rw [set_size]; exact hB9.size)
      clear hBn hB9 hA
      obtain ⟨cv12, c12⟩ := hS9.r12.rowB.cell i hlt
      have f12 := hS9.r12.rowB.frozen i
      obtain ⟨cv13, c13⟩ := hS9.r13.rowB.cell i hlt
      have f13 := hS9.r13.rowB.frozen i
      go_wp2
      refine ⟨end_frame2 rfl (fun y hy => ⟨live_cons ((hy 0).trans H0.out.symm) (live_cons (hy 1) (live_cons ((hy 8).trans H8.out.symm) (live_cons ((hy 9).trans H9.out.symm) (live_cons ((hy 10).trans H10.out.symm) (live_cons ((hy 11).trans H11.out.symm) (live_cons ((hy 12).trans H12.out.symm) (live_cons ((hy 13).trans H13.out.symm) (live_cons ((hy 157).trans H157.out.symm) (live_nil _))))))))), i + 1, hy 158, G', kf', kl', rk', ob', cg', E ++ [(po, po + 2)], ((hy 14).trans (by simp)), by omega, HBe.out, HBn.out⟩), ?_⟩
      show N - (intOf (.int .i64 ((i : Int) + 1))).toNat < N - (intOf (.int .i64 (i : Int))).toNat
      simp [intOf]; omega
    | false =>
      rw [hpres] at cPr
      go_upto_region 75 with fail
      clear cPr
      obtain ⟨we, rfl⟩ : ∃ we, we = wd := ⟨_, rfl⟩
      have HSe := HSd
      have hbe := hbd
      clear HSd hbd
      have hge : PRow we g rds := hgrow4.1.block (HSe.keep g (by have := HSe.six.lt; have := Hpu.out; have := hBt.six.lt; have := hgrow4.2; omega) (by have := hgrow4.1.lt; have := Hpo.out; omega))
      have hmk3 := run_make_row' (P := Yba.prog) 45 47 (.pointer none) 8 Yba.underlying45 info47 rfl .i64 .i64 (D i).rl (by omega) (by omega)
      go_upto_region 76 with fail
      obtain ⟨wf, hwf⟩ : ∃ wf, wf = we.alloc (.cells (madeCells #[Value.pointer none] (D i).rl) 47) := ⟨_, rfl⟩
      have HSf := HSe.alloc (.cells (madeCells #[Value.pointer none] (D i).rl) 47) (m' := 4) rfl
      rw [← hwf] at HSf
      have hcp := fun ty => copy_reads we wf ty g (D i).rl cr rds hwf hge hlen
      have hrf : wf.heap[we.heap.size]? = some (.cells (madeCells #[Value.pointer none] (D i).rl) 47 (0, 0)) := by rw [hwf]; exact alloc_last _ _
      have hbf : Blk3 wf po (ooObj pu n g (D i).rl cr) (colObj (po + 1)) := by rw [hwf]; exact hbe.alloc HSe.size
      rw [← hwf]
      rw [HSe.size] at hcp hrf ⊢
      clear hwf hmk3 hbe
      go_upto_region 77 with fail
      obtain ⟨wg, hwg⟩ : ∃ wg, wg = wf.setRow (po + 3) (rds.map ptr).toArray := ⟨_, rfl⟩
      have HSg := HSf.own (grown_setRow wf (po + 3) (rds.map ptr).toArray) (by simp [World.setRow]) (by omega) hh hr0
      rw [← hwg] at HSg
      have hbg : Blk3 wg po (ooObj pu n g (D i).rl cr) (colObj (po + 1)) := by rw [hwg]; exact hbf.grown (grown_setRow _ _ _) (by omega)
      have hb3 : wg.heap[po + 3]? = some (.cells (rds.map ptr).toArray 47 (0, 0)) := by rw [hwg]; exact setRow_heap wf (po + 3) _ _ 47 (0, 0) hrf
      have HB3 : Hid (wg.heap[po + 3]? = some (.cells (rds.map ptr).toArray 47 (0, 0))) := hb3
      rw [← hwg]
      clear hwg hcp hrf hb3 HSf hbf HSe hge
      obtain ⟨cv11, c11⟩ := HSg.six.r11.rowB.cell i hlt
      have f11 := HSg.six.r11.rowB.frozen i
      go_upto_region 78 with fail
      obtain ⟨wh, hwh⟩ : ∃ wh, wh = wg.setCell ⟨r0 + 3, i, none⟩ (sl3 (po + 3) (D i).rl) := ⟨_, rfl⟩
      have HSh := HSg.turn (HSg.six.set11 i (sl3 (po + 3) (D i).rl) hlt) (grown_setCell _ _ _ _) (set_size _ _ _) (by omega) (by omega) hr0
      rw [← hwh] at HSh
      have hbh : Blk3 wh po (ooObj pu n g (D i).rl cr) (colObj (po + 1)) := by rw [hwh]; exact hbg.set (by omega)
      have HB3h : Hid (wh.heap[po + 3]? = some (.cells (rds.map ptr).toArray 47 (0, 0))) := by show _ = _; rw [hwh, set_block _ _ _ (po + 3) _ (lt_of_block HB3.out) (by omega)]; exact HB3.out
      rw [← hwh]
      clear hwh c11 f11 cv11 HSg hbg HB3
      have hmk4 := run_make_row' (P := Yba.prog) 77 27 (.slice none 0 0) 24 Yba.underlying77 info27 rfl .i64 .i64 (D i).rl (by omega) (by omega)
      have hmk5 := run_make_row' (P := Yba.prog) 74 55 (.slice none 0 0) 24 Yba.underlying74 info55 rfl .i64 .i64 (D i).rl (by omega) (by omega)
      go_wp2
      obtain ⟨wi, hwi⟩ : ∃ wi, wi = (wh.alloc (.cells (madeCells #[Value.slice none 0 0] (D i).rl) 27)).alloc (.cells (madeCells #[Value.slice none 0 0] (D i).rl) 55) := ⟨_, rfl⟩
      have HSi := (HSh.alloc (.cells (madeCells #[Value.slice none 0 0] (D i).rl) 27) (m' := 5) rfl).alloc (.cells (madeCells #[Value.slice none 0 0] (D i).rl) 55) (m' := 6) rfl
      rw [← hwi] at HSi
      have hbi : Blk3 wi po (ooObj pu n g (D i).rl cr) (colObj (po + 1)) := by rw [hwi]; exact (hbh.alloc HSh.size).alloc (HSh.alloc _ (m' := 5) rfl).size
      have hfi : RowF wi (po + 4) 27 (D i).rl (fun _ => .slice none 0 0) ∧ RowF wi (po + 5) 55 (D i).rl (fun _ => .slice none 0 0) := by rw [hwi]; exact two_rows HSh.size
      have HB3i : Hid (wi.heap[po + 3]? = some (.cells (rds.map ptr).toArray 47 (0, 0))) := by show _ = _; rw [hwi, (World.grownBy_alloc _ _ none).block (po + 3) (by rw [(HSh.alloc _ (m' := 5) rfl).size]; omega) (by simp), (World.grownBy_alloc wh _ none).block (po + 3) (lt_of_block HB3h.out) (by simp)]; exact HB3h.out
      rw [← hwi]
      rw [HSh.size]
      rw [show po + 4 + 1 = po + 5 from rfl]
      clear hwi hmk4 hmk5 HSh hbh HB3h
      have hgi : PRow wi g rds := hgrow4.1.block (HSi.keep g (by have := Hpu.out; have := hBt.six.lt; have := hgrow4.2; omega) (by have := hgrow4.1.lt; have := Hpo.out; omega))
      have hRdi : Reads G1 i n w3.heap.size kf1 kl1 rk1 (D i).rd rds wi := ⟨fun b y hy => Gh.at_block (hRd.mem b y hy) (HSi.keep b (by have := hRd.lo b y hy; have := Hpu.out; have := hBt.six.lt; omega) (by have := hRd.mem.lt hy; have := Hpo.out; omega)), hRd.lo, hRd.each, hRd.nodup⟩
      have hGf : ∀ k, po ≤ k → G1 k = none := fun k hk => hRd.mem.fresh (by have := Hpo.out; omega)
      have hglt : g < po := by have := hgrow4.1.lt; have := Hpo.out; omega
      refine wp_frame rfl (fun x1 hx => ?_)
      refine loop9 x1 wi _ i n w3.heap.size (po + 4) (po + 5) g (D i).rl cr G1 kf1 kl1 rk1 (D i).rd rds (hx 35) (hx 36) (hx 367) (hx 368) (hx 369) hRdi hlen hgi hn8 hub hfi.1 hfi.2 (hGf _ (by omega)) (hGf _ (by omega)) (by omega) (by omega) (by omega) ?_
      rintro x2 w9 hl2 ⟨G2, f, sv, hA⟩
      have e0 : x2 0 = .slice (some ⟨sb, so, none⟩) N cO := (hl2.head).trans (hx 0)
      have e1 : x2 1 = x 1 := (hl2.tail.head).trans (hx 1)
      have e8 : x2 8 = .slice (some ⟨r0, 0, none⟩) N N := (hl2.tail.tail.head).trans (hx 8)
      have e9 : x2 9 = .slice (some ⟨r0 + 1, 0, none⟩) N N := (hl2.tail.tail.tail.head).trans (hx 9)
      have e10 : x2 10 = .map (some (r0 + 2)) := (hl2.tail.tail.tail.tail.head).trans (hx 10)
      have e11 : x2 11 = .slice (some ⟨r0 + 3, 0, none⟩) N N := (hl2.tail.tail.tail.tail.tail.head).trans (hx 11)
      have e12 : x2 12 = .slice (some ⟨r0 + 4, 0, none⟩) N N := (hl2.tail.tail.tail.tail.tail.tail.head).trans (hx 12)
      have e13 : x2 13 = .slice (some ⟨r0 + 5, 0, none⟩) N N := (hl2.tail.tail.tail.tail.tail.tail.tail.head).trans (hx 13)
      have e14 : x2 14 = .int .i64 (E.length : Nat) := (hl2.tail.tail.tail.tail.tail.tail.tail.tail.head).trans (hx 14)
      have e15 : x2 15 = .int .i64 (i : Nat) := (hl2.tail.tail.tail.tail.tail.tail.tail.tail.tail.head).trans (hx 15)
      have e35 : x2 35 = .slice (some ⟨po + 4, 0, none⟩) (D i).rl (D i).rl := (hl2.tail.tail.tail.tail.tail.tail.tail.tail.tail.tail.head).trans (hx 35)
      have e36 : x2 36 = .slice (some ⟨po + 5, 0, none⟩) (D i).rl (D i).rl := (hl2.tail.tail.tail.tail.tail.tail.tail.tail.tail.tail.tail.head).trans (hx 36)
      have e157 : x2 157 = .int .i64 (N : Nat) := (hl2.tail.tail.tail.tail.tail.tail.tail.tail.tail.tail.tail.tail.head).trans (hx 157)
      have e158 : x2 158 = .int .i64 (i : Nat) := (hl2.tail.tail.tail.tail.tail.tail.tail.tail.tail.tail.tail.tail.tail.head).trans (hx 158)
      have e367 : x2 367 = .slice (some ⟨g, 0, none⟩) (D i).rl cr := (hl2.tail.tail.tail.tail.tail.tail.tail.tail.tail.tail.tail.tail.tail.tail.head).trans (hx 367)
      have e368 : x2 368 = .int .i64 ((D i).rl : Nat) := (hl2.tail.tail.tail.tail.tail.tail.tail.tail.tail.tail.tail.tail.tail.tail.tail.head).trans (hx 368)
      rw [frame_lit, e0, e1, e8, e9, e10, e11, e12, e13, e14, e15, e35, e36, e157, e158, e367, e368]
      clear e0 e1 e8 e9 e10 e11 e12 e13 e14 e15 e35 e36 e157 e158 e367 e368 hl2 hx
      have hS9 := HSi.six.blocks (w' := w9) fun k _ hk => hA.only.block k (by rw [HSi.size]; omega) (mark2_none (by omega) (by omega))
      have hB9 : Below W0.heap.size W0 w9 := HSi.bel.trans (hA.only.below HSi.bel.size (fun b y hy => by by_cases h : b = po + 4 ∨ b = po + 5; omega; rw [mark2, if_neg h] at hy; cases hy))
      obtain ⟨G', kf', kl', rk', ob', cg', hBn⟩ := round_done hBt hlt hgw4 hRd (by have := Hpu.out; omega) hlen Hn.out hn8 hub hru4 Hfu.out (Nat.le_of_eq Hpu.out.symm) (by omega) hgrow4.1 (by have := Hpu.out; have := hgrow4.2; omega) hG1g (by have := hgrow4.2; omega) Hpo.out (by rw [Hpo.out]; exact hs4) HSi.keep HSi.size hbi.b0.choose_spec hbi.b1 rfl (by rw [hlen]; rfl) hbi.b2 rfl HB3i.out (by rw [hlen]; exact hA) (by rw [hpres]) (by rw [hlen]; exact HSi.six)
      rw [hlen] at hBn
      have HBn : Hid (Built D r0 N (i + 1) G' kf' kl' rk' ob' cg' (E) ((w9.setCell ⟨r0 + 4, i, none⟩ (sl3 (po + 4) (D i).rl)).setCell ⟨r0 + 5, i, none⟩ (sl3 (po + 5) (D i).rl))) := hBn
      have HBe : Hid (Below W0.heap.size W0 ((w9.setCell ⟨r0 + 4, i, none⟩ (sl3 (po + 4) (D i).rl)).setCell ⟨r0 + 5, i, none⟩ (sl3 (po + 5) (D i).rl))) := below_grown (below_grown hB9 (grown_setCell _ _ _ _) (fun q hq => by cases hq; omega) hB9.size) (grown_setCell _ _ _ _) (fun q hq => by cases hq; omega) (by rw [set_size]; exact hB9.size)
      clear hBn hB9 hA
      obtain ⟨cv12, c12⟩ := hS9.r12.rowB.cell i hlt
      have f12 := hS9.r12.rowB.frozen i
      obtain ⟨cv13, c13⟩ := hS9.r13.rowB.cell i hlt
      have f13 := hS9.r13.rowB.frozen i
      go_wp2
      refine ⟨end_frame2 rfl (fun y hy => ⟨live_cons ((hy 0).trans H0.out.symm) (live_cons (hy 1) (live_cons ((hy 8).trans H8.out.symm) (live_cons ((hy 9).trans H9.out.symm) (live_cons ((hy 10).trans H10.out.symm) (live_cons ((hy 11).trans H11.out.symm) (live_cons ((hy 12).trans H12.out.symm) (live_cons ((hy 13).trans H13.out.symm) (live_cons ((hy 157).trans H157.out.symm) (live_nil _))))))))), i + 1, hy 158, G', kf', kl', rk', ob', cg', E, (hy 14), by omega, HBe.out, HBn.out⟩), ?_⟩
      show N - (intOf (.int .i64 ((i : Int) + 1))).toNat < N - (intOf (.int .i64 (i : Int))).toNat
      simp [intOf]; omega
  · have hd : decide ((i : Int) < (N : Int)) = false := by simp; omega
    have hd2 : decide (i < N) = false := by simp; omega
    obtain rfl : i = N := by omega
    go_wp2
    refine at_frame (Q := fun a w => Q _ a w) rfl (fun y hy => ?_)
    exact hexit y _ G kf kl rk ob cg E (live_cons ((hy 0).trans H0.out.symm) (live_cons (hy 1) (live_cons ((hy 8).trans H8.out.symm) (live_cons ((hy 9).trans H9.out.symm) (live_cons ((hy 10).trans H10.out.symm) (live_cons ((hy 11).trans H11.out.symm) (live_cons ((hy 12).trans H12.out.symm) (live_cons ((hy 13).trans H13.out.symm) (live_cons ((hy 157).trans H157.out.symm) (live_nil _)))))))))) (hy 14) hBel' hBt
end Go.Proofs.Ybulkeidm
