/-
  LawS6720BWhole: the reads of one object.
-/
import Derived.Test.YbulkeidmExt
namespace Go.Proofs.Ybulkeidm
open Go.RowKit

theorem info3 : (Yba.prog.info? 3).map (fun i => (i.zero, i.size, i.bytes)) = some (some (.int .i64 0), 1, 8) := by kernel_rfl
theorem info47 : (Yba.prog.info? 47).map (fun i => (i.zero, i.size, i.bytes)) = some (some (.pointer none), 1, 8) := by kernel_rfl
theorem append_rd {w : World} {ops : Array Oper} {rest : List Oper} {o : Oper} {a : Act} {Q : Exit → Act → World → Prop} (hgd : o.guard = none) (s x : Operand)
    (ho : o.op = .call { callee := .builtin .append, args := #[s, x], argTypes := #[45, 45] })
    (base : Nat) (v : Value) (n : Nat) (xs : List Value) (hs : a.eval s = v) (hown : w.ownsRow base 47 1 v n xs) (B p : Nat) (hx : a.eval x = .slice (some ⟨B, 0, none⟩) 1 1) (hB : w.heap[B]? = some (.cells #[ptr p] 47 (0, 0)))
    (hn : n ≤ 17592186044415) (hbase : base ≤ w.heap.size)
    (h : ∀ g cap w', w'.ownsRow base 47 1 (.slice (some ⟨g, 0, none⟩) (n + 1) cap) (n + 1) (xs ++ [ptr p]) → w.grownBy w' v.ownBlock → (v.ownBlock = some g ∨ g = w.heap.size) → wpList Yba.prog ops Q rest (a.put o.dst (.slice (some ⟨g, 0, none⟩) (n + 1) cap)) w') :
    wpList Yba.prog ops Q (o :: rest) a w := by
  obtain ⟨i0, hi, hz0, hz1, hz2⟩ := info_parts info47
  refine wpList_append_lies w hgd s x 45 ho base 47 i0 (.pointer none) 1 8 Yba.underlying45 hi hz0 hz1 hz2 rfl (by decide) v n xs hs hown ⟨B, 0, none⟩ 1 1 [ptr p] hx rfl (World.news_of_block hB) (by simp [Value.oneCell']) (by decide) (by unfold maxLen; omega) (by omega) hbase _ rfl ?_
  intro g cap w' h1 h2 h3 _
  exact h g cap w' h1 h2 h3
theorem own_keep {w w' : World} {base : Nat} {e : TypeId} {size : Nat} {v : Value} {n : Nat} {xs : List Value} {row : Option Nat} (h : w.ownsRow base e size v n xs) (hg : w.grownBy w' row) (hr : ∀ g, v.ownBlock = some g → some g ≠ row) : w'.ownsRow base e size v n xs := by
  refine ⟨h.1, ?_⟩
  rcases h.2 with h1 | ⟨g, cap, cur, hv, hb, hgg, h2⟩
  · exact .inl h1
  · exact .inr ⟨g, cap, cur, hv, hb, by rw [hg.block g (lt_of_block hgg) (hr g (by rw [hv]; rfl))]; exact hgg, h2⟩
theorem own_size {w : World} {base : Nat} {e : TypeId} {size : Nat} {v : Value} {n g : Nat} {xs : List Value} (h : w.ownsRow base e size v n xs) (hg : v.ownBlock = some g) : g < w.heap.size := by
  rcases h.2 with ⟨rfl, _⟩ | ⟨g', cap, cur, rfl, _, hb, _⟩
  · cases hg
  · cases hg; exact lt_of_block hb
theorem Reads.grown {G : Nat → Option Gh} {i n B : Nat} {kf kl : Nat → Int} {rk : Nat → RK} {rd : Nat → RdIn} {rds : List Nat} {w w' : World} {row : Option Nat} (h : Reads G i n B kf kl rk rd rds w) (hg : w.grownBy w' row) (hr : ∀ g, row = some g → G g = none) : Reads G i n B kf kl rk rd rds w' :=
  ⟨h.mem.grown hg hr, h.lo, h.each, h.nodup⟩
abbrev evObj (f l : Int) : Obj := .cells #[.int .i64 f, .int .i64 l, .int .i64 0, .int .u8 0, .pointer none, .pointer none, .string { data := #[] }, .int .u64 0, .pointer none, .string { data := #[] }, .int .i64 0, .int .i64 0] 53
abbrev rdObj (e : Nat) (fo fs : Value) (m : Int) : Obj := .cells #[.pointer (some ⟨e, 0, none⟩), .pointer none, fo, fs, .int .i64 m] 59

/-- Two new blocks. -/
structure Made2 (w wA : World) (o1 o2 : Obj) : Prop where
  one : wA.heap[w.heap.size]? = some o1
  two : wA.heap[w.heap.size + 1]? = some o2
  size : wA.heap.size = w.heap.size + 2
  gr : w.grownBy wA none
theorem made2 (w : World) (o1 o2 : Obj) : Made2 w ((w.alloc o1).alloc o2).drew o1 o2 := by
  have hs : (w.alloc o1).heap.size = w.heap.size + 1 := by show (w.heap.push o1).size = _; simp
  have h2 := alloc_last (w.alloc o1) o2
  rw [hs] at h2
  have h1 : ((w.alloc o1).alloc o2).heap[w.heap.size]? = some o1 := by
    rw [(World.grownBy_alloc (w.alloc o1) o2 none).block w.heap.size (by omega) (by simp)]
    exact alloc_last w o1
  refine ⟨h1, h2, ?_, ((World.grownBy_alloc w o1 none).trans (World.grownBy_alloc _ o2 none)).trans (grown_drew _ none)⟩
  show ((w.alloc o1).heap.push o2).size = _
  simp [hs]

/-- A dense read is there. -/
theorem dense_done {G : Nat → Option Gh} {i n B : Nat} {kf kl : Nat → Int} {rk : Nat → RK} {rd : Nat → RdIn} {rds : List Nat} {w' w3 : World} {s0 fb : Nat} {r : RdIn} (h : Reads G i n B kf kl rk rd rds w') (hs : s0 = w'.heap.size) (hB : B ≤ s0) (hfb : fb = s0 + 2) (hg : w'.grownBy w3 none)
    (b0 : w3.heap[s0]? = some (evObj r.file r.line)) (b1 : w3.heap[s0 + 1]? = some (rdObj s0 (.slice (some ⟨fb, 0, none⟩) n n) (.slice none 0 0) 0)) (bf : RowF w3 fb 3 n (fun k => .int .i64 (foInit r k))) (hr : r = rd rds.length) (hd : r.dense = true) :
    ∃ G' kf' kl' rk', Reads G' i n B kf' kl' rk' rd (rds ++ [s0 + 1]) w3 ∧ ∀ g, g < s0 → G g = none → G' g = none := by
  have hI : IRow w3 fb ((List.range n).map (foInit r)) := by
    obtain ⟨arr, h1, h2, h3⟩ := bf
    rw [IRow, h1]
    congr 2
    apply Array.ext
    · simp [h2]
    · intro k hk1 hk2
      have h4 := h3 k (by omega)
      rw [Array.getElem?_eq_getElem hk1] at h4
      simpa using h4
  have hm := h.mem.grown hg (fun g hg => by cases hg)
  have n0 : G s0 = none := h.mem.fresh (by omega)
  have n1 : ext G s0 (.plain (evObj r.file r.line)) (s0 + 1) = none := by rw [ext_ne _ _ _ _ (by omega)]; exact h.mem.fresh (by omega)
  have n2 : ext (ext G s0 (.plain (evObj r.file r.line))) (s0 + 1) (.plain (rdObj s0 (.slice (some ⟨fb, 0, none⟩) n n) (.slice none 0 0) 0)) fb = none := by rw [ext_ne _ _ _ _ (by omega), ext_ne _ _ _ _ (by omega)]; exact h.mem.fresh (by omega)
  refine ⟨ext (ext (ext G s0 (.plain (evObj r.file r.line))) (s0 + 1) (.plain (rdObj s0 (.slice (some ⟨fb, 0, none⟩) n n) (.slice none 0 0) 0))) fb (.fo i ((List.range n).map (foInit r))), _, _, _,
    h.snoc (s0 + 1) (by omega) (((sub_ext n0).trans (sub_ext n1)).trans (sub_ext n2)) (Mem.ext (x := Gh.fo i ((List.range n).map (foInit r))) (Mem.ext (x := Gh.plain (rdObj s0 (.slice (some ⟨fb, 0, none⟩) n n) (.slice none 0 0) 0)) (Mem.ext (x := Gh.plain (evObj r.file r.line)) hm b0) b1) hI) ?_ r.file r.line (RK.dense fb ((List.range n).map (foInit r))) (by rw [hr]) (by rw [hr]) ?_ ?_, ?_⟩
  · intro b x hx
    by_cases e2 : b = fb
    · omega
    · rw [ext_ne _ _ _ _ e2] at hx
      by_cases e1 : b = s0 + 1
      · omega
      · rw [ext_ne _ _ _ _ e1] at hx
        by_cases e0 : b = s0
        · omega
        · rw [ext_ne _ _ _ _ e0] at hx; exact h.lo b x hx
  · rw [rkFor, ← hr, if_pos hd]; exact ⟨fb, rfl⟩
  · refine ⟨_, _, s0, _, _, _, _, (by rw [ext_ne _ _ _ _ (by omega), ext_self]), rfl, rfl, rfl, (by rw [ext_ne _ _ _ _ (by omega), ext_ne _ _ _ _ (by omega), ext_self]), (by rw [upd_self]; rfl), (by rw [upd_self]; rfl), ?_⟩
    rw [upd_self]
    exact ⟨rfl, rfl, by simp, ext_self _ _ _⟩
  · intro g hg hG
    rw [ext_ne _ _ _ _ (by omega), ext_ne _ _ _ _ (by omega), ext_ne _ _ _ _ (by omega)]
    exact hG

theorem pairs_key : ∀ (l : List (Int × Int)) (t : Nat), t < l.length * 2 → (l.flatMap encP)[t]? = some ((encP (l.toArray[t / 2]!))[t % 2]!)
  | [], t, h => absurd h (by simp)
  | p :: l, t, h => by
    match t with
    | 0 => simp [encP]
    | 1 => simp [encP]
    | t + 2 =>
      have ih := pairs_key l t (by simp at h; omega)
      have e1 : (t + 2) / 2 = t / 2 + 1 := by omega
      have e2 : (t + 2) % 2 = t % 2 := by omega
      rw [e1, e2]
      have e3 : ((p :: l).flatMap encP)[t + 2]? = (l.flatMap encP)[t]? := by simp [encP]
      rw [e3, ih]
      congr 3
      have hl : t / 2 < l.length := by simp at h; omega
      rw [getElem!_pos l.toArray (t / 2) (by simpa using hl), getElem!_pos (p :: l).toArray (t / 2 + 1) (by simpa using hl)]
      simp

/-- Pairs in a row of cells, held as the sort wants them. -/
theorem holds_pairs {w : World} {g : Nat} {cur : Array Value} (v : List (Int × Int)) (hg : w.heap[g]? = some (.cells cur 62 (0, 0))) (hc : cur.toList.take (v.length * 2) = v.flatMap encP) : Go.Sort.HoldsK encP 2 w g 0 v.toArray := by
  intro t ht
  rw [Go.Sort.size_flatK] at ht
  have ht' : t < v.length * 2 := by simpa using ht
  have h1 := pairs_key v t ht'
  rw [← hc, List.getElem?_take, if_pos ht'] at h1
  rw [Go.Sort.get_flatK _ _ _ _ ht, Nat.zero_add]
  exact ⟨cellOf hg t _ (by simpa using h1), by simp [World.frozen?, hg]⟩

/-- A read with pairs is there. -/
theorem sparse_done {G : Nat → Option Gh} {i n B : Nat} {kf kl : Nat → Int} {rk : Nat → RK} {rd : Nat → RdIn} {rds : List Nat} {w' w3 : World} {s0 base : Nat} {r : RdIn} {fsv : Value} (h : Reads G i n B kf kl rk rd rds w') (hs : s0 = w'.heap.size) (hB : B ≤ s0) (hbase : s0 + 2 ≤ base) (hg : w'.grownBy w3 none)
    (b0 : w3.heap[s0]? = some (evObj r.file r.line)) (b1 : w3.heap[s0 + 1]? = some (rdObj s0 (.slice none 0 0) fsv (n : Int))) (hF : w3.ownsRow base 62 2 fsv (prs r n (min r.ql r.pl)).length ((prs r n (min r.ql r.pl)).flatMap encP)) (hr : r = rd rds.length) (hd : r.dense = false) (hR : Reps (prs r n (min r.ql r.pl))) :
    ∃ G' kf' kl' rk', Reads G' i n B kf' kl' rk' rd (rds ++ [s0 + 1]) w3 ∧ ∀ g, g < s0 → G g = none → G' g = none := by
  have hm := h.mem.grown hg (fun g hg => by cases hg)
  have n0 : G s0 = none := h.mem.fresh (by omega)
  have n1 : ext G s0 (.plain (evObj r.file r.line)) (s0 + 1) = none := by rw [ext_ne _ _ _ _ (by omega)]; exact h.mem.fresh (by omega)
  have hm2 := Mem.ext (x := Gh.plain (rdObj s0 (.slice none 0 0) fsv (n : Int))) (Mem.ext (x := Gh.plain (evObj r.file r.line)) hm b0) b1
  have hlo2 : ∀ b x, ext (ext G s0 (.plain (evObj r.file r.line))) (s0 + 1) (.plain (rdObj s0 (.slice none 0 0) fsv (n : Int))) b = some x → B ≤ b := by
    intro b x hx
    by_cases e1 : b = s0 + 1
    · omega
    · rw [ext_ne _ _ _ _ e1] at hx
      by_cases e0 : b = s0
      · omega
      · rw [ext_ne _ _ _ _ e0] at hx; exact h.lo b x hx
  rcases hF.2 with ⟨rfl, hl0⟩ | ⟨g, cap, cur, rfl, hbg, hgg, _, _, _, hcur⟩
  · refine ⟨ext (ext G s0 (.plain (evObj r.file r.line))) (s0 + 1) (.plain (rdObj s0 (.slice none 0 0) (.slice none 0 0) (n : Int))), _, _, _,
      h.snoc (s0 + 1) (by omega) ((sub_ext n0).trans (sub_ext n1)) hm2 hlo2 r.file r.line RK.none (by rw [hr]) (by rw [hr]) ?_ ?_, ?_⟩
    · rw [rkFor, ← hr, if_neg (by rw [hd]; simp)]; exact .inl ⟨List.eq_nil_of_length_eq_zero hl0, rfl⟩
    · refine ⟨_, _, s0, _, _, _, _, ext_self _ _ _, rfl, rfl, rfl, (by rw [ext_ne _ _ _ _ (by omega), ext_self]), (by rw [upd_self]; rfl), (by rw [upd_self]; rfl), ?_⟩
      rw [upd_self]
      exact ⟨rfl, rfl⟩
    · intro q hq hG
      rw [ext_ne _ _ _ _ (by omega), ext_ne _ _ _ _ (by omega)]
      exact hG
  · have n2 : ext (ext G s0 (.plain (evObj r.file r.line))) (s0 + 1) (.plain (rdObj s0 (.slice none 0 0) (.slice (some ⟨g, 0, none⟩) (prs r n (min r.ql r.pl)).length cap) (n : Int))) g = none := by rw [ext_ne _ _ _ _ (by omega), ext_ne _ _ _ _ (by omega)]; exact h.mem.fresh (by omega)
    refine ⟨ext (ext (ext G s0 (.plain (evObj r.file r.line))) (s0 + 1) (.plain (rdObj s0 (.slice none 0 0) (.slice (some ⟨g, 0, none⟩) (prs r n (min r.ql r.pl)).length cap) (n : Int)))) g (.fst i (prs r n (min r.ql r.pl))), _, _, _,
      h.snoc (s0 + 1) (by omega) (((sub_ext n0).trans (sub_ext n1)).trans (sub_ext n2)) (Mem.ext (x := Gh.fst i (prs r n (min r.ql r.pl))) hm2 ⟨lt_of_block hgg, holds_pairs _ hgg hcur⟩) ?_ r.file r.line (RK.pairs g (prs r n (min r.ql r.pl)) cap) (by rw [hr]) (by rw [hr]) ?_ ?_, ?_⟩
    · intro b x hx
      by_cases e2 : b = g
      · omega
      · rw [ext_ne _ _ _ _ e2] at hx; exact hlo2 b x hx
    · rw [rkFor, ← hr, if_neg (by rw [hd]; simp)]; exact .inr ⟨g, cap, rfl⟩
    · refine ⟨_, _, s0, _, _, _, _, (by rw [ext_ne _ _ _ _ (by omega), ext_self]), rfl, rfl, rfl, (by rw [ext_ne _ _ _ _ (by omega), ext_ne _ _ _ _ (by omega), ext_self]), (by rw [upd_self]; rfl), (by rw [upd_self]; rfl), ?_⟩
      rw [upd_self]
      exact ⟨rfl, rfl, hR, ext_self _ _ _⟩
    · intro q hq hG
      rw [ext_ne _ _ _ _ (by omega), ext_ne _ _ _ _ (by omega), ext_ne _ _ _ _ (by omega)]
      exact hG

set_option maxHeartbeats 4000000 in
set_option maxRecDepth 100000 in
theorem loop6 (x : Nat → Value) (w W0 : World) (Q : Exit → Act → World → Prop) (ib io pr n i cr : Nat) (d : ObIn) (h16 : x 16 = .pointer (some ⟨ib, io, none⟩)) (h17 : x 17 = .int .i64 (n : Nat)) (h207 : x 207 = .int .i64 (d.rl : Nat)) (h208 : x 208 = .int .i64 0) (h22 : x 22 = .slice (some ⟨pr, 0, none⟩) 0 cr) (hown : w.ownsRow pr 47 1 (.slice (some ⟨pr, 0, none⟩) 0 cr) 0 [])
    (hn : n ≤ 8) (hn0 : 0 < n) (hO : ObAt W0 ib io d) (hB : Below W0.heap.size W0 w) (hpr : W0.heap.size ≤ pr) (hsz : w.heap.size = pr + 1)
    (hexit : ∀ x' w' G kf kl rk rds, Live [(0, x 0), (1, x 1), (8, x 8), (9, x 9), (10, x 10), (11, x 11), (12, x 12), (13, x 13), (14, x 14), (15, x 15), (16, x 16), (17, x 17), (18, x 18), (157, x 157), (158, x 158), (207, x 207)] x' → w.grownBy w' (some pr) → Reads G i n w.heap.size kf kl rk d.rd rds w' → rds.length = d.rl → w'.ownsRow pr 47 1 (x' 22) d.rl (rds.map ptr) → (∀ g, (x' 22).ownBlock = some g → G g = none) → (∃ g c, x' 22 = .slice (some ⟨g, 0, none⟩) d.rl c) → Q (.exit 10) ⟨frame x', []⟩ w') :
    Code.wp Yba.prog (.loop (loopAt Yba.f3 5)) Q ⟨frame x, []⟩ w := by
  refine wp_loop (fun a w' => ∃ (x' : Nat → Value), a = ⟨frame x', []⟩ ∧ ∃ (j : Nat) (G : Nat → Option Gh) (kf kl : Nat → Int) (rk : Nat → RK) (rds : List Nat), Live [(0, x 0), (1, x 1), (8, x 8), (9, x 9), (10, x 10), (11, x 11), (12, x 12), (13, x 13), (14, x 14), (15, x 15), (16, x 16), (17, x 17), (18, x 18), (157, x 157), (158, x 158), (207, x 207)] x' ∧ x' 208 = .int .i64 (j : Nat) ∧ j ≤ d.rl ∧ w.grownBy w' (some pr) ∧ Reads G i n w.heap.size kf kl rk d.rd rds w' ∧ rds.length = j ∧ w'.ownsRow pr 47 1 (x' 22) j (rds.map ptr) ∧ (∀ g, (x' 22).ownBlock = some g → G g = none) ∧ ∃ g c, x' 22 = .slice (some ⟨g, 0, none⟩) j c) (fun a _ => d.rl - (intOf (a.tmps.getD 208 (.bool false))).toNat) ⟨x, rfl, 0, fun _ => none, fun _ => 0, fun _ => 0, fun _ => RK.none, [], live_cons (rfl) (live_cons (rfl) (live_cons (rfl) (live_cons (rfl) (live_cons (rfl) (live_cons (rfl) (live_cons (rfl) (live_cons (rfl) (live_cons (rfl) (live_cons (rfl) (live_cons (rfl) (live_cons (rfl) (live_cons (rfl) (live_cons (rfl) (live_cons (rfl) (live_cons (rfl) (live_nil _)))))))))))))))), h208, by omega, World.grownBy.refl _ _, ⟨(fun b x hx => by cases hx), (fun b x hx => by cases hx), (fun t ht => absurd ht (Nat.not_lt_zero t)), List.nodup_nil⟩, rfl, by rw [h22]; exact hown, fun _ _ => rfl, pr, cr, h22⟩ ?_
  clear hown
  rintro a w' ⟨x', rfl, j, G, kf, kl, rk, rds, hl, o208, hj, hg, hRd, hlen, hF, hGn, hsl⟩
  obtain ⟨fv, o22⟩ : ∃ fv, x' 22 = fv := ⟨_, rfl⟩
  rw [o22] at hF hGn hsl
  have HSL : Hid (∃ g c, fv = .slice (some ⟨g, 0, none⟩) j c) := hsl
  clear hsl
  have e0 := hl.head
  have e1 := hl.tail.head
  have e8 := hl.tail.tail.head
  have e9 := hl.tail.tail.tail.head
  have e10 := hl.tail.tail.tail.tail.head
  have e11 := hl.tail.tail.tail.tail.tail.head
  have e12 := hl.tail.tail.tail.tail.tail.tail.head
  have e13 := hl.tail.tail.tail.tail.tail.tail.tail.head
  have e14 := hl.tail.tail.tail.tail.tail.tail.tail.tail.head
  have e15 := hl.tail.tail.tail.tail.tail.tail.tail.tail.tail.head
  have e16 := (hl.tail.tail.tail.tail.tail.tail.tail.tail.tail.tail.head).trans h16
  have e17 := (hl.tail.tail.tail.tail.tail.tail.tail.tail.tail.tail.tail.head).trans h17
  have e18 := hl.tail.tail.tail.tail.tail.tail.tail.tail.tail.tail.tail.tail.head
  have e157 := hl.tail.tail.tail.tail.tail.tail.tail.tail.tail.tail.tail.tail.tail.head
  have e158 := hl.tail.tail.tail.tail.tail.tail.tail.tail.tail.tail.tail.tail.tail.tail.head
  have e207 := (hl.tail.tail.tail.tail.tail.tail.tail.tail.tail.tail.tail.tail.tail.tail.tail.head).trans h207
  rw [frame_lit, e0, e1, e8, e9, e10, e11, e12, e13, e14, e15, e16, e17, e18, e157, e158, e207, o208, o22]
  clear e0 e1 e8 e9 e10 e11 e12 e13 e14 e15 e16 e17 e18 e157 e158 e207 hl o208 o22
  conv => arg 2; whnf
  have hB' : Below W0.heap.size W0 w' := below_grown hB hg (fun g hg => by cases hg; exact hpr) hB.size
  have hO' := hO.below hB' (Nat.le_refl _)
  by_cases hlt : j < d.rl
  · obtain ⟨rb, ro, hra, hrW⟩ := hO.rs j hlt
    have hr := hrW.below hB' (Nat.le_refl _)
    have c3 : w'.cell? ⟨ib, io + 3, none⟩ = some (.slice (some ⟨rb, ro, none⟩) d.rl d.rc) := by rw [← hra]; exact hO'.c3
    have r0 := hr.c0
    have r1 := hr.c1
    have r2 := hr.c2
    obtain ⟨r, hrr⟩ : ∃ r, r = d.rd j := ⟨_, rfl⟩
    have Hrr : Hid (r = d.rd j) := hrr
    rw [← hrr] at hr hrW r0 r1 r2
    clear hrr
    have hrb := hO.rb
    have i1 : (j : Int) < (d.rl : Int) := by omega
    cases hdn : r.dense with
    | true =>
      rw [hdn] at r2
      go_upto_region 44 with fail
      go_region
      obtain ⟨wA, hwA⟩ : ∃ wA, wA = ((w'.alloc (evObj r.file r.line)).alloc (rdObj w'.heap.size (.slice none 0 0) (.slice none 0 0) 0)).drew := ⟨_, rfl⟩
      have hMd : Made2 w' wA (evObj r.file r.line) (rdObj w'.heap.size (.slice none 0 0) (.slice none 0 0) 0) := by rw [hwA]; exact made2 _ _ _
      have HwA : Hid (wA = ((w'.alloc (evObj r.file r.line)).alloc (rdObj w'.heap.size (.slice none 0 0) (.slice none 0 0) 0)).drew) := hwA
      rw [← hwA]
      clear hwA r0 r1 c3
      have r2A : wA.cell? ⟨rb, ro + j * 5 + 2, none⟩ = some (.bool true) := hMd.gr.cell r2 (by simp)
      clear r2
      obtain ⟨s0, hs0⟩ : ∃ s0, s0 = w'.heap.size := ⟨_, rfl⟩
      rw [← hs0] at hMd ⊢
      have Hs0 : Hid (s0 = w'.heap.size) := hs0
      clear hs0 HwA
      have hmk := run_make_row' (P := Yba.prog) 27 3 (.int .i64 0) 8 Yba.underlying27 info3 rfl .i64 .i64 n (by omega) (by omega)
      go_wp2
      obtain ⟨fb, hfb⟩ : ∃ fb, fb = wA.heap.size := ⟨_, rfl⟩
      have hRow : RowF (wA.alloc (.cells (madeCells #[Value.int .i64 0] n) 3)) fb 3 n (fun _ => .int .i64 0) := by rw [hfb]; exact World.rowIs_made _ _ _ _
      have Hfb : Hid (fb = s0 + 2) := by show fb = s0 + 2; rw [hfb, hMd.size, ← Hs0.out]
      have HfbA : Hid (fb = wA.heap.size) := hfb
      rw [← hfb]
      clear hfb hmk r2A
      obtain ⟨wB, hwB⟩ : ∃ wB, wB = wA.alloc (.cells (madeCells #[Value.int .i64 0] n) 3) := ⟨_, rfl⟩
      have hgB : wA.grownBy wB none := by rw [hwB]; exact World.grownBy_alloc _ _ _
      rw [← hwB] at hRow ⊢
      clear hwB
      have hgwB : w'.grownBy wB none := hMd.gr.trans hgB
      refine wp_frame rfl (fun x1 hx => ?_)
      refine loop7 x1 _ W0 _ rb (ro + j * 5) fb n r (hx 24) (hx 26) (hx 236) (hx 237) hRow hn hrW (below_grown hB' hgwB (fun g hg => by cases hg) hB'.size) (by have := Hfb.out; have := Hs0.out; have := hB'.size; omega) ?_
      rintro x2 w2 hl2 hg2 hR2
      have e0 : x2 0 = x 0 := (hl2.head).trans (hx 0)
      have e1 : x2 1 = x 1 := (hl2.tail.head).trans (hx 1)
      have e8 : x2 8 = x 8 := (hl2.tail.tail.head).trans (hx 8)
      have e9 : x2 9 = x 9 := (hl2.tail.tail.tail.head).trans (hx 9)
      have e10 : x2 10 = x 10 := (hl2.tail.tail.tail.tail.head).trans (hx 10)
      have e11 : x2 11 = x 11 := (hl2.tail.tail.tail.tail.tail.head).trans (hx 11)
      have e12 : x2 12 = x 12 := (hl2.tail.tail.tail.tail.tail.tail.head).trans (hx 12)
      have e13 : x2 13 = x 13 := (hl2.tail.tail.tail.tail.tail.tail.tail.head).trans (hx 13)
      have e14 : x2 14 = x 14 := (hl2.tail.tail.tail.tail.tail.tail.tail.tail.head).trans (hx 14)
      have e15 : x2 15 = x 15 := (hl2.tail.tail.tail.tail.tail.tail.tail.tail.tail.head).trans (hx 15)
      have e16 : x2 16 = .pointer (some ⟨ib, io, none⟩) := (hl2.tail.tail.tail.tail.tail.tail.tail.tail.tail.tail.head).trans (hx 16)
      have e17 : x2 17 = .int .i64 (n : Nat) := (hl2.tail.tail.tail.tail.tail.tail.tail.tail.tail.tail.tail.head).trans (hx 17)
      have e18 : x2 18 = x 18 := (hl2.tail.tail.tail.tail.tail.tail.tail.tail.tail.tail.tail.tail.head).trans (hx 18)
      have e22 : x2 22 = fv := (hl2.tail.tail.tail.tail.tail.tail.tail.tail.tail.tail.tail.tail.tail.head).trans (hx 22)
      have e24 : x2 24 = .pointer (some ⟨rb, ro + j * 5, none⟩) := (hl2.tail.tail.tail.tail.tail.tail.tail.tail.tail.tail.tail.tail.tail.tail.head).trans (hx 24)
      have e25 : x2 25 = .pointer (some ⟨s0 + 1, 0, none⟩) := (hl2.tail.tail.tail.tail.tail.tail.tail.tail.tail.tail.tail.tail.tail.tail.tail.head).trans (hx 25)
      have e26 : x2 26 = .slice (some ⟨fb, 0, none⟩) n n := (hl2.tail.tail.tail.tail.tail.tail.tail.tail.tail.tail.tail.tail.tail.tail.tail.tail.head).trans (hx 26)
      have e157 : x2 157 = x 157 := (hl2.tail.tail.tail.tail.tail.tail.tail.tail.tail.tail.tail.tail.tail.tail.tail.tail.tail.head).trans (hx 157)
      have e158 : x2 158 = x 158 := (hl2.tail.tail.tail.tail.tail.tail.tail.tail.tail.tail.tail.tail.tail.tail.tail.tail.tail.tail.head).trans (hx 158)
      have e207 : x2 207 = .int .i64 (d.rl : Nat) := (hl2.tail.tail.tail.tail.tail.tail.tail.tail.tail.tail.tail.tail.tail.tail.tail.tail.tail.tail.tail.head).trans (hx 207)
      have e208 : x2 208 = .int .i64 (j : Nat) := (hl2.tail.tail.tail.tail.tail.tail.tail.tail.tail.tail.tail.tail.tail.tail.tail.tail.tail.tail.tail.tail.head).trans (hx 208)
      have e236 : x2 236 = .int .i64 (n : Nat) := (hl2.tail.tail.tail.tail.tail.tail.tail.tail.tail.tail.tail.tail.tail.tail.tail.tail.tail.tail.tail.tail.tail.head).trans (hx 236)
      rw [frame_lit, e0, e1, e8, e9, e10, e11, e12, e13, e14, e15, e16, e17, e18, e22, e24, e25, e26, e157, e158, e207, e208, e236]
      clear e0 e1 e8 e9 e10 e11 e12 e13 e14 e15 e16 e17 e18 e22 e24 e25 e26 e157 e158 e207 e208 e236 hl2 hx
      have b1 : w2.heap[s0 + 1]? = some (rdObj s0 (.slice none 0 0) (.slice none 0 0) 0) := by
        have h1 := hMd.two
        rw [← Hs0.out] at h1
        rw [hg2.block (s0 + 1) ?_ ?_, hgB.block (s0 + 1) ?_ (by simp), h1]
        · have := hMd.size; have := Hs0.out; omega
        · have := hMd.size; have := hgB.size; have := Hs0.out; omega
        · have := Hfb.out; simp; omega
      have cS := cellOf b1 2 _ rfl
      have fS : w2.frozen? ⟨s0 + 1, 2, none⟩ = false := by simp [World.frozen?, b1]
      have HB1 : Hid (w2.heap[s0 + 1]? = some (rdObj s0 (.slice none 0 0) (.slice none 0 0) 0)) := b1
      clear b1
      have b0 : w2.heap[s0]? = some (evObj r.file r.line) := by
        have h1 := hMd.one
        rw [← Hs0.out] at h1
        rw [hg2.block s0 ?_ ?_, hgB.block s0 ?_ (by simp), h1]
        · have := hMd.size; have := Hs0.out; omega
        · have := hMd.size; have := hgB.size; have := Hs0.out; omega
        · have := Hfb.out; simp; omega
      have hg23 : w2.grownBy (w2.setCell ⟨s0 + 1, 2, none⟩ (.slice (some ⟨fb, 0, none⟩) n n)) (some (s0 + 1)) := grown_setCell _ _ _ _
      have hgw3 : w'.grownBy (w2.setCell ⟨s0 + 1, 2, none⟩ (.slice (some ⟨fb, 0, none⟩) n n)) none := grown_then (grown_then hgwB hg2 (fun q hq => by cases hq; left; have := Hfb.out; have := Hs0.out; omega)) hg23 (fun q hq => by cases hq; left; have := Hs0.out; omega)
      obtain ⟨G', kf', kl', rk', hRd', hGn'⟩ := dense_done (w3 := w2.setCell ⟨s0 + 1, 2, none⟩ (.slice (some ⟨fb, 0, none⟩) n n)) hRd Hs0.out (by have := hg.size; have := Hs0.out; omega) Hfb.out hgw3
        (by rw [hg23.block s0 (lt_of_block b0) (by simp)]; exact b0)
        (by rw [heap_setCell_same w2 (s0 + 1) 2 _ 59 _ HB1.out]; rfl)
        (hR2.grown hg23 (by have := Hfb.out; simp; omega)) (by rw [hlen]; exact Hrr.out) hdn
      have hown3 := own_keep hF hgw3 (by simp)
      have hown4 := hown3.alloc (.cells #[ptr (s0 + 1)] 47)
      have hos : ∀ q, fv.ownBlock = some q → q < s0 ∧ pr ≤ q := fun q hq => ⟨by rw [Hs0.out]; exact own_size hF hq, own_lt hF hq⟩
      have hs23 : (w2.setCell ⟨s0 + 1, 2, none⟩ (.slice (some ⟨fb, 0, none⟩) n n)).heap.size = w2.heap.size := by simp [World.setCell]
      have HBB : Hid (((w2.setCell ⟨s0 + 1, 2, none⟩ (.slice (some ⟨fb, 0, none⟩) n n)).alloc (.cells #[ptr (s0 + 1)] 47)).heap[w2.heap.size]? = some (.cells #[ptr (s0 + 1)] 47 (0, 0))) := by show _ = _; rw [← hs23]; exact alloc_last _ _
      have hbs : pr ≤ ((w2.setCell ⟨s0 + 1, 2, none⟩ (.slice (some ⟨fb, 0, none⟩) n n)).alloc (.cells #[ptr (s0 + 1)] 47)).heap.size := by
        have h1 := hgw3.size; have h2 := hg.size; have h3 := (World.grownBy_alloc (w2.setCell ⟨s0 + 1, 2, none⟩ (.slice (some ⟨fb, 0, none⟩) n n)) (.cells #[ptr (s0 + 1)] 47) none).size; omega
      clear hs23 b0
      go_wp2_with (at_builtin; refine append_rd rfl (.tmp 321) (.tmp 323) rfl pr fv j _ rfl hown4 w2.heap.size (s0 + 1) rfl HBB.out (by omega) hbs ?_; intro g cap w4 hown5 hgrow hat)
      have hg4 : w.grownBy w4 (some pr) := grown_then (grown_then (grown_then hg hgw3 (fun q hq => by cases hq)) (World.grownBy_alloc _ _ none) (fun q hq => by cases hq)) hgrow (fun q hq => by
        have h1 := (hos q hq).2
        rcases Nat.eq_or_lt_of_le h1 with h2 | h2
        · right; rw [h2]
        · left; omega)
      have hRd4 := (hRd'.grown (World.grownBy_alloc _ (.cells #[ptr (s0 + 1)] 47) none) (fun q hq => by cases hq)).grown hgrow (fun q hq => hGn' q (hos q hq).1 (hGn q hq))
      have hGn4 : ∀ q, (Value.slice (some ⟨g, 0, none⟩) (j + 1) cap).ownBlock = some q → G' q = none := by
        intro q hq
        cases hq
        rcases hat with h1 | h1
        · exact hGn' g (hos g h1).1 (hGn g h1)
        · refine hRd'.mem.fresh ?_
          rw [h1]
          exact (World.grownBy_alloc _ _ none).size
      have hown6 : w4.ownsRow pr 47 1 (.slice (some ⟨g, 0, none⟩) (j + 1) cap) (j + 1) ((rds ++ [s0 + 1]).map ptr) := by
        rw [List.map_append]; exact hown5
      have hl6 : (rds ++ [s0 + 1]).length = j + 1 := by simp [hlen]
      clear hown5 hown4 hown3 HBB hbs hgrow hat hRd' hgw3
      refine ⟨end_frame rfl (fun y hy => ⟨j + 1, G', kf', kl', rk', rds ++ [s0 + 1], live_cons (hy 0) (live_cons (hy 1) (live_cons (hy 8) (live_cons (hy 9) (live_cons (hy 10) (live_cons (hy 11) (live_cons (hy 12) (live_cons (hy 13) (live_cons (hy 14) (live_cons (hy 15) (live_cons ((hy 16).trans h16.symm) (live_cons ((hy 17).trans h17.symm) (live_cons (hy 18) (live_cons (hy 157) (live_cons (hy 158) (live_cons ((hy 207).trans h207.symm) (live_nil _)))))))))))))))), hy 208, by omega, hg4, hRd4, hl6, ?_, ?_, g, cap, hy 22⟩), ?_⟩
      · rw [show y 22 = .slice (some ⟨g, 0, none⟩) (j + 1) cap from hy 22]; exact hown6
      · rw [show y 22 = .slice (some ⟨g, 0, none⟩) (j + 1) cap from hy 22]; exact hGn4
      · show d.rl - (intOf (.int .i64 ((j : Int) + 1))).toNat < d.rl - (intOf (.int .i64 (j : Int))).toNat
        simp [intOf]; omega
    | false =>
      rw [hdn] at r2
      go_upto_region 44 with fail
      go_region
      obtain ⟨wA, hwA⟩ : ∃ wA, wA = ((w'.alloc (evObj r.file r.line)).alloc (rdObj w'.heap.size (.slice none 0 0) (.slice none 0 0) 0)).drew := ⟨_, rfl⟩
      have hMd : Made2 w' wA (evObj r.file r.line) (rdObj w'.heap.size (.slice none 0 0) (.slice none 0 0) 0) := by rw [hwA]; exact made2 _ _ _
      have HwA : Hid (wA = ((w'.alloc (evObj r.file r.line)).alloc (rdObj w'.heap.size (.slice none 0 0) (.slice none 0 0) 0)).drew) := hwA
      rw [← hwA]
      clear hwA r0 r1 c3
      have r2A : wA.cell? ⟨rb, ro + j * 5 + 2, none⟩ = some (.bool false) := hMd.gr.cell r2 (by simp)
      clear r2
      obtain ⟨s0, hs0⟩ : ∃ s0, s0 = w'.heap.size := ⟨_, rfl⟩
      rw [← hs0] at hMd ⊢
      have Hs0 : Hid (s0 = w'.heap.size) := hs0
      clear hs0 HwA
      go_wp2
      obtain ⟨ub, hub⟩ : ∃ ub, ub = wA.heap.size := ⟨_, rfl⟩
      have hRow : RowF (wA.alloc (.cells #[.bool false, .bool false, .bool false, .bool false, .bool false, .bool false, .bool false, .bool false] 60)) ub 60 8 (fun _ => .bool false) := by
        rw [hub]
        refine ⟨_, alloc_last _ _, rfl, fun k hk => ?_⟩
        match k, hk with
        | 0, _ => rfl
        | 1, _ => rfl
        | 2, _ => rfl
        | 3, _ => rfl
        | 4, _ => rfl
        | 5, _ => rfl
        | 6, _ => rfl
        | 7, _ => rfl
      have Hub : Hid (ub = s0 + 2) := by show ub = s0 + 2; rw [hub, hMd.size, ← Hs0.out]
      rw [← hub]
      clear hub r2A
      obtain ⟨wB, hwB⟩ : ∃ wB, wB = wA.alloc (.cells #[.bool false, .bool false, .bool false, .bool false, .bool false, .bool false, .bool false, .bool false] 60) := ⟨_, rfl⟩
      have hgB : wA.grownBy wB none := by rw [hwB]; exact World.grownBy_alloc _ _ _
      rw [← hwB] at hRow ⊢
      clear hwB
      have hgwB : w'.grownBy wB none := hMd.gr.trans hgB
      have hubB := hRow.rowB.lt
      refine wp_frame rfl (fun x1 hx => ?_)
      refine loop8 x1 wB W0 _ rb (ro + j * 5) ub n 60 r (hx 17) (hx 24) (hx 28) (hx 30) (hx 29) hRow hn hn0 hrW (below_grown hB' hgwB (fun g hg => by cases hg) hB'.size) (by have := Hub.out; have := Hs0.out; have := hB'.size; omega) hubB ?_
      rintro x2 w2 K hl2 hK hg2 hF2
      rw [hK] at hF2
      obtain ⟨ao, m, fcap, e29⟩ : ∃ ao m fcap, x2 29 = .slice ao m fcap := by
        rcases hF2.2 with ⟨h1, _⟩ | ⟨g, cap, cur, h1, _⟩
        · exact ⟨_, _, _, h1⟩
        · exact ⟨_, _, _, h1⟩
      rw [e29] at hF2
      have e0 : x2 0 = x 0 := (hl2.head).trans (hx 0)
      have e1 : x2 1 = x 1 := (hl2.tail.head).trans (hx 1)
      have e8 : x2 8 = x 8 := (hl2.tail.tail.head).trans (hx 8)
      have e9 : x2 9 = x 9 := (hl2.tail.tail.tail.head).trans (hx 9)
      have e10 : x2 10 = x 10 := (hl2.tail.tail.tail.tail.head).trans (hx 10)
      have e11 : x2 11 = x 11 := (hl2.tail.tail.tail.tail.tail.head).trans (hx 11)
      have e12 : x2 12 = x 12 := (hl2.tail.tail.tail.tail.tail.tail.head).trans (hx 12)
      have e13 : x2 13 = x 13 := (hl2.tail.tail.tail.tail.tail.tail.tail.head).trans (hx 13)
      have e14 : x2 14 = x 14 := (hl2.tail.tail.tail.tail.tail.tail.tail.tail.head).trans (hx 14)
      have e15 : x2 15 = x 15 := (hl2.tail.tail.tail.tail.tail.tail.tail.tail.tail.head).trans (hx 15)
      have e16 : x2 16 = .pointer (some ⟨ib, io, none⟩) := (hl2.tail.tail.tail.tail.tail.tail.tail.tail.tail.tail.head).trans (hx 16)
      have e17 : x2 17 = .int .i64 (n : Nat) := (hl2.tail.tail.tail.tail.tail.tail.tail.tail.tail.tail.tail.head).trans (hx 17)
      have e18 : x2 18 = x 18 := (hl2.tail.tail.tail.tail.tail.tail.tail.tail.tail.tail.tail.tail.head).trans (hx 18)
      have e22 : x2 22 = fv := (hl2.tail.tail.tail.tail.tail.tail.tail.tail.tail.tail.tail.tail.tail.head).trans (hx 22)
      have e24 : x2 24 = .pointer (some ⟨rb, ro + j * 5, none⟩) := (hl2.tail.tail.tail.tail.tail.tail.tail.tail.tail.tail.tail.tail.tail.tail.head).trans (hx 24)
      have e25 : x2 25 = .pointer (some ⟨s0 + 1, 0, none⟩) := (hl2.tail.tail.tail.tail.tail.tail.tail.tail.tail.tail.tail.tail.tail.tail.tail.head).trans (hx 25)
      have e28 : x2 28 = .pointer (some ⟨ub, 0, none⟩) := (hl2.tail.tail.tail.tail.tail.tail.tail.tail.tail.tail.tail.tail.tail.tail.tail.tail.head).trans (hx 28)
      have e157 : x2 157 = x 157 := (hl2.tail.tail.tail.tail.tail.tail.tail.tail.tail.tail.tail.tail.tail.tail.tail.tail.tail.head).trans (hx 157)
      have e158 : x2 158 = x 158 := (hl2.tail.tail.tail.tail.tail.tail.tail.tail.tail.tail.tail.tail.tail.tail.tail.tail.tail.tail.head).trans (hx 158)
      have e207 : x2 207 = .int .i64 (d.rl : Nat) := (hl2.tail.tail.tail.tail.tail.tail.tail.tail.tail.tail.tail.tail.tail.tail.tail.tail.tail.tail.tail.head).trans (hx 207)
      have e208 : x2 208 = .int .i64 (j : Nat) := (hl2.tail.tail.tail.tail.tail.tail.tail.tail.tail.tail.tail.tail.tail.tail.tail.tail.tail.tail.tail.tail.head).trans (hx 208)
      rw [frame_lit, e0, e1, e8, e9, e10, e11, e12, e13, e14, e15, e16, e17, e18, e22, e24, e25, e28, e157, e158, e207, e208, e29]
      clear e0 e1 e8 e9 e10 e11 e12 e13 e14 e15 e16 e17 e18 e22 e24 e25 e28 e157 e158 e207 e208 e29 hl2 hx hK
      have b1 : w2.heap[s0 + 1]? = some (rdObj s0 (.slice none 0 0) (.slice none 0 0) 0) := by
        have h1 := hMd.two
        rw [← Hs0.out] at h1
        rw [hg2.block (s0 + 1) ?_ ?_, hgB.block (s0 + 1) ?_ (by simp), h1]
        · have := hMd.size; have := Hs0.out; omega
        · have := hMd.size; have := hgB.size; have := Hs0.out; omega
        · have := Hub.out; simp; omega
      have b0 : w2.heap[s0]? = some (evObj r.file r.line) := by
        have h1 := hMd.one
        rw [← Hs0.out] at h1
        rw [hg2.block s0 ?_ ?_, hgB.block s0 ?_ (by simp), h1]
        · have := hMd.size; have := Hs0.out; omega
        · have := hMd.size; have := hgB.size; have := Hs0.out; omega
        · have := Hub.out; simp; omega
      have cS := cellOf b1 3 _ rfl
      have cS4 := cellOf b1 4 _ rfl
      have fS : w2.frozen? ⟨s0 + 1, 3, none⟩ = false := by simp [World.frozen?, b1]
      have fS4 : w2.frozen? ⟨s0 + 1, 4, none⟩ = false := by simp [World.frozen?, b1]
      have HB1 : Hid (w2.heap[s0 + 1]? = some (rdObj s0 (.slice none 0 0) (.slice none 0 0) 0)) := b1
      clear b1
      have hg23 : w2.grownBy ((w2.setCell ⟨s0 + 1, 3, none⟩ (.slice ao m fcap)).setCell ⟨s0 + 1, 4, none⟩ (.int .i64 (n : Nat))) (some (s0 + 1)) := (grown_setCell _ _ _ _).trans (grown_setCell _ _ _ _)
      have hgw3 : w'.grownBy ((w2.setCell ⟨s0 + 1, 3, none⟩ (.slice ao m fcap)).setCell ⟨s0 + 1, 4, none⟩ (.int .i64 (n : Nat))) none := grown_then (grown_then hgwB hg2 (fun q hq => by cases hq; left; have := Hub.out; have := Hs0.out; omega)) hg23 (fun q hq => by cases hq; left; have := Hs0.out; omega)
      have hszB : s0 + 2 ≤ wB.heap.size := by have := hgB.size; have := hMd.size; have := Hs0.out; omega
      obtain ⟨G', kf', kl', rk', hRd', hGn'⟩ := sparse_done (base := wB.heap.size) (w3 := ((w2.setCell ⟨s0 + 1, 3, none⟩ (.slice ao m fcap)).setCell ⟨s0 + 1, 4, none⟩ (.int .i64 (n : Nat)))) hRd Hs0.out (by have := hg.size; have := Hs0.out; omega) hszB hgw3
        (by rw [hg23.block s0 (lt_of_block b0) (by simp)]; exact b0)
        (by rw [heap_setCell_same _ (s0 + 1) 4 _ 59 _ (heap_setCell_same w2 (s0 + 1) 3 _ 59 _ HB1.out)]; rfl)
        (own_grown hF2 hg23 (fun q hq => by cases hq; omega)) (by rw [hlen]; exact Hrr.out) hdn (prs_reps r n hn0 hn _)
      have hown3 := own_keep hF hgw3 (by simp)
      have hown4 := hown3.alloc (.cells #[ptr (s0 + 1)] 47)
      have hos : ∀ q, fv.ownBlock = some q → q < s0 ∧ pr ≤ q := fun q hq => ⟨by rw [Hs0.out]; exact own_size hF hq, own_lt hF hq⟩
      have hs23 : ((w2.setCell ⟨s0 + 1, 3, none⟩ (.slice ao m fcap)).setCell ⟨s0 + 1, 4, none⟩ (.int .i64 (n : Nat))).heap.size = w2.heap.size := by simp [World.setCell]
      have HBB : Hid ((((w2.setCell ⟨s0 + 1, 3, none⟩ (.slice ao m fcap)).setCell ⟨s0 + 1, 4, none⟩ (.int .i64 (n : Nat))).alloc (.cells #[ptr (s0 + 1)] 47)).heap[w2.heap.size]? = some (.cells #[ptr (s0 + 1)] 47 (0, 0))) := by show _ = _; rw [← hs23]; exact alloc_last _ _
      have hbs : pr ≤ (((w2.setCell ⟨s0 + 1, 3, none⟩ (.slice ao m fcap)).setCell ⟨s0 + 1, 4, none⟩ (.int .i64 (n : Nat))).alloc (.cells #[ptr (s0 + 1)] 47)).heap.size := by
        have h1 := hgw3.size; have h2 := hg.size; have h3 := (World.grownBy_alloc ((w2.setCell ⟨s0 + 1, 3, none⟩ (.slice ao m fcap)).setCell ⟨s0 + 1, 4, none⟩ (.int .i64 (n : Nat))) (.cells #[ptr (s0 + 1)] 47) none).size; omega
      clear hs23 b0
      go_wp2_with (at_builtin; refine append_rd rfl (.tmp 321) (.tmp 323) rfl pr fv j _ rfl hown4 w2.heap.size (s0 + 1) rfl HBB.out (by omega) hbs ?_; intro g cap w4 hown5 hgrow hat)
      have hg4 : w.grownBy w4 (some pr) := grown_then (grown_then (grown_then hg hgw3 (fun q hq => by cases hq)) (World.grownBy_alloc _ _ none) (fun q hq => by cases hq)) hgrow (fun q hq => by
        have h1 := (hos q hq).2
        rcases Nat.eq_or_lt_of_le h1 with h2 | h2
        · right; rw [h2]
        · left; omega)
      have hRd4 := (hRd'.grown (World.grownBy_alloc _ (.cells #[ptr (s0 + 1)] 47) none) (fun q hq => by cases hq)).grown hgrow (fun q hq => hGn' q (hos q hq).1 (hGn q hq))
      have hGn4 : ∀ q, (Value.slice (some ⟨g, 0, none⟩) (j + 1) cap).ownBlock = some q → G' q = none := by
        intro q hq
        cases hq
        rcases hat with h1 | h1
        · exact hGn' g (hos g h1).1 (hGn g h1)
        · refine hRd'.mem.fresh ?_
          rw [h1]
          exact (World.grownBy_alloc _ _ none).size
      have hown6 : w4.ownsRow pr 47 1 (.slice (some ⟨g, 0, none⟩) (j + 1) cap) (j + 1) ((rds ++ [s0 + 1]).map ptr) := by
        rw [List.map_append]; exact hown5
      have hl6 : (rds ++ [s0 + 1]).length = j + 1 := by simp [hlen]
      clear hown5 hown4 hown3 HBB hbs hgrow hat hRd' hgw3
      refine ⟨end_frame rfl (fun y hy => ⟨j + 1, G', kf', kl', rk', rds ++ [s0 + 1], live_cons (hy 0) (live_cons (hy 1) (live_cons (hy 8) (live_cons (hy 9) (live_cons (hy 10) (live_cons (hy 11) (live_cons (hy 12) (live_cons (hy 13) (live_cons (hy 14) (live_cons (hy 15) (live_cons ((hy 16).trans h16.symm) (live_cons ((hy 17).trans h17.symm) (live_cons (hy 18) (live_cons (hy 157) (live_cons (hy 158) (live_cons ((hy 207).trans h207.symm) (live_nil _)))))))))))))))), hy 208, by omega, hg4, hRd4, hl6, ?_, ?_, g, cap, hy 22⟩), ?_⟩
      · rw [show y 22 = .slice (some ⟨g, 0, none⟩) (j + 1) cap from hy 22]; exact hown6
      · rw [show y 22 = .slice (some ⟨g, 0, none⟩) (j + 1) cap from hy 22]; exact hGn4
      · show d.rl - (intOf (.int .i64 ((j : Int) + 1))).toNat < d.rl - (intOf (.int .i64 (j : Int))).toNat
        simp [intOf]; omega

  · have hd : decide ((j : Int) < (d.rl : Int)) = false := by simp; omega
    have hd2 : decide (j < d.rl) = false := by simp; omega
    obtain rfl : j = d.rl := by omega
    go_wp2
    refine at_frame (Q := fun a w => Q _ a w) rfl (fun y hy => ?_)
    have e22 : y 22 = fv := hy 22
    exact hexit y _ G kf kl rk rds (live_cons (hy 0) (live_cons (hy 1) (live_cons (hy 8) (live_cons (hy 9) (live_cons (hy 10) (live_cons (hy 11) (live_cons (hy 12) (live_cons (hy 13) (live_cons (hy 14) (live_cons (hy 15) (live_cons ((hy 16).trans h16.symm) (live_cons ((hy 17).trans h17.symm) (live_cons (hy 18) (live_cons (hy 157) (live_cons (hy 158) (live_cons ((hy 207).trans h207.symm) (live_nil _))))))))))))))))) hg hRd hlen (by rw [e22]; exact hF) (by rw [e22]; exact hGn) (by rw [e22]; exact HSL.out)
end Go.Proofs.Ybulkeidm
