/-
  LawS6720BWhole: the copies of the places of one object's reads.
-/
import Derived.Test.YbulkeidmBld
namespace Go.Proofs.Ybulkeidm
open Go.RowKit

theorem end_frame2 {R : (Nat → Value) → Prop} {F : Array Value} (hs : F.size = 826) (h : ∀ x, (∀ n, x n = F.getD n (.bool false)) → R x) : ∃ x, F = frame x ∧ R x :=
  ⟨fun n => F.getD n (.bool false), frame_eta F hs, h _ fun _ => rfl⟩
theorem grown_setRow (w : World) (g : Nat) (cs : Array Value) : w.grownBy (w.setRow g cs) (some g) := by
  refine ⟨rfl, rfl, rfl, by simp [World.setRow], fun k _ hk => ?_⟩
  simp only [World.setRow, Array.getElem?_modify]
  rw [if_neg (fun e => hk (by rw [e]))]
/-- 'c := make([]int, n); copy(c, src)': the world behind the copy. -/
theorem copy_ints (w' wM : World) (ty : TypeId) (fb n : Nat) (v : List Int) (hwM : wM = w'.alloc (.cells (madeCells #[Value.int .i64 0] n) 3)) (hI : IRow w' fb v) (hvn : v.length = n) :
    (Builtin.copy_ #[27, 27] ty #[.slice (some ⟨w'.heap.size, 0, none⟩) n n, .slice (some ⟨fb, 0, none⟩) n n]).run Yba.prog wM = .ok (.int .i64 (n : Nat)) (wM.setRow w'.heap.size (v.map (Value.int .i64)).toArray) := by
  have hR : RowF wM w'.heap.size 3 n (fun _ => .int .i64 0) := by rw [hwM]; exact World.rowIs_made _ _ _ _
  obtain ⟨arr, h1, h2, _⟩ := hR
  have hI' : IRow wM fb v := by rw [hwM]; exact hI.block ((World.grownBy_alloc w' _ none).block fb (lt_of_block hI) (by simp))
  have h3 := run_copy_row (P := Yba.prog) wM 27 27 ty 3 w'.heap.size 0 n n ⟨fb, 0, none⟩ n n arr 3 (v.map (Value.int .i64)) Yba.underlying27 (by kernel_rfl) h1 (by simp [hvn]) (World.news_of_block hI') (by simp; omega) (by simp [Value.oneCell'])
  have e : arr.toList.take 0 ++ v.map (Value.int .i64) ++ arr.toList.drop (0 + (v.map (Value.int .i64)).length) = v.map (Value.int .i64) := by simp [hvn, h2]
  rw [e, List.length_map, hvn] at h3
  exact h3
theorem flat_len : ∀ v : List (Int × Int), (v.flatMap encP).length = v.length * 2
  | [] => rfl
  | p :: l => by
    have ih := flat_len l
    rw [List.flatMap_cons, List.length_append, ih, List.length_cons]
    simp [encP]
    omega
theorem pairs_cells {w : World} {g : Nat} {v : List (Int × Int)} (h : Go.Sort.HoldsK encP 2 w g 0 v.toArray) (t : Nat) (x : Value) (hx : (v.flatMap encP)[t]? = some x) : w.cell? ⟨g, t, none⟩ = some x := by
  have ht : t < v.length * 2 := by
    rcases Nat.lt_or_ge t (v.length * 2) with h1 | h1
    · exact h1
    · rw [List.getElem?_eq_none (by rw [flat_len]; exact h1)] at hx; cases hx
  have ht' : t < (Go.Sort.flatK encP 2 v.toArray).size := by rw [Go.Sort.size_flatK]; simpa using ht
  have h1 := (h t ht').1
  rw [Go.Sort.get_flatK _ _ _ _ (by simpa using ht), Nat.zero_add] at h1
  rw [pairs_key v t ht] at hx
  rw [h1]
  exact hx
/-- 'c := make([]updateRef, n); copy(c, src)': the world behind the copy. -/
theorem copy_prs (w' wM : World) (ty : TypeId) (fb cap : Nat) (v : List (Int × Int)) (hwM : wM = w'.alloc (.cells (madeCells #[.int .i64 0, .int .i64 0] (v.length * 2)) 62)) (hI : Go.Sort.HoldsK encP 2 w' fb 0 v.toArray) :
    (Builtin.copy_ #[55, 55] ty #[.slice (some ⟨w'.heap.size, 0, none⟩) v.length v.length, .slice (some ⟨fb, 0, none⟩) v.length cap]).run Yba.prog wM = .ok (.int .i64 (v.length : Nat)) (wM.setRow w'.heap.size (v.flatMap encP).toArray) := by
  have hg : wM.heap[w'.heap.size]? = some (.cells (madeCells #[.int .i64 0, .int .i64 0] (v.length * 2)) 62 (0, 0)) := by rw [hwM]; exact alloc_last _ _
  have hsz : (madeCells #[Value.int .i64 0, .int .i64 0] (v.length * 2)).size = v.length * 2 := by simp [madeCells]
  have hsrc : ∀ j x, (v.flatMap encP)[j]? = some x → wM.cell? ((⟨fb, 0, none⟩ : Addr).add j) = some x := by
    intro j x hx
    rw [Go.WideShapes.add_plain, Nat.zero_add, hwM]
    exact (World.grownBy_alloc w' _ none).cell (pairs_cells hI j x hx) (by simp)
  have h3 := run_copy_pairs wM ty w'.heap.size v.length v.length ⟨fb, 0, none⟩ v.length cap _ 62 (v.flatMap encP) hg (by rw [flat_len]; simp) hsrc (by rw [flat_len, hsz]; exact Nat.le_refl _) (fun x hx => by
    obtain ⟨p, _, hp⟩ := List.mem_flatMap.1 hx
    simp only [encP, List.mem_cons, List.not_mem_nil, or_false] at hp
    rcases hp with rfl | rfl <;> rfl)
  have e : v.flatMap encP ++ (madeCells #[Value.int .i64 0, .int .i64 0] (v.length * 2)).toList.drop (v.flatMap encP).length = v.flatMap encP := by
    rw [List.drop_of_length_le (by rw [flat_len]; simp [hsz]), List.append_nil]
  rw [e] at h3
  simpa [goInt] using h3

/-- The first j reads' places are copied. -/
structure CpAt (w w' : World) (G G' : Nat → Option Gh) (rk : Nat → RK) (rds : List Nat) (fob fsb L j : Nat) (f s : Nat → Value) : Prop where
  sub : Sub G G'
  new : ∀ b x, G' b = some x → G b = some x ∨ w.heap.size ≤ b
  mem : Mem G' w'
  only : Only (mark2 fob fsb) w w'
  rf : RowF w' fob 27 L f
  rs : RowF w' fsb 55 L s
  zero : ∀ t, t < L → j ≤ t → f t = .slice none 0 0 ∧ s t = .slice none 0 0
  cp : ∀ t (h : t < rds.length), t < j → CpOK G' (rk rds[t]) (f t) (s t)

section
variable {w w' : World} {G G' : Nat → Option Gh} {rk : Nat → RK} {rds : List Nat} {fob fsb L j : Nat} {f s : Nat → Value}
theorem CpAt.out (h : CpAt w w' G G' rk rds fob fsb L j f s) (b : Nat) (hb : b < w.heap.size) (hG : G b = none) : G' b = none := by
  cases hx : G' b with
  | none => rfl
  | some x =>
    rcases h.new b x hx with h1 | h1
    · rw [hG] at h1; cases h1
    · omega
theorem CpAt.keep (h : CpAt w w' G G' rk rds fob fsb L j f s) (hlt : j < L) (hr : ∀ h : j < rds.length, rk rds[j] = RK.none) : CpAt w w' G G' rk rds fob fsb L (j + 1) f s :=
  ⟨h.sub, h.new, h.mem, h.only, h.rf, h.rs, fun t h1 h2 => h.zero t h1 (by omega), fun t h1 h2 => by
    by_cases e : t = j
    · subst e
      rw [hr h1, (h.zero t hlt (Nat.le_refl _)).1, (h.zero t hlt (Nat.le_refl _)).2]
      exact ⟨rfl, rfl⟩
    · exact h.cp t h1 (by omega)⟩
theorem CpAt.dense {wC : World} {cb fb : Nat} {v : List Int} (h : CpAt w w' G G' rk rds fob fsb L j f s) (hlt : j < L) (hne : fob ≠ fsb) (h1 : fob < w.heap.size) (hG1 : G fob = none) (hr : ∀ h : j < rds.length, rk rds[j] = RK.dense fb v)
    (hg : w'.grownBy wC none) (hcb : cb = w'.heap.size) (hb : wC.heap[cb]? = some (.cells (v.map (Value.int .i64)).toArray 3 (0, 0))) :
    ∃ G'' f' s', CpAt w (wC.setCell ⟨fob, j, none⟩ (.slice (some ⟨cb, 0, none⟩) v.length v.length)) G G'' rk rds fob fsb L (j + 1) f' s' := by
  have hcn : G' cb = none := h.mem.fresh (by omega)
  have hs := h.only.size
  have hg6 := grown_setCell wC fob j (.slice (some ⟨cb, 0, none⟩) v.length v.length)
  have hbW : (wC.setCell ⟨fob, j, none⟩ (.slice (some ⟨cb, 0, none⟩) v.length v.length)).heap[cb]? = some (.cells (v.map (Value.int .i64)).toArray 3 (0, 0)) := by
    rw [hg6.block cb (lt_of_block hb) (fun e => by have := Option.some.inj e; omega)]; exact hb
  have hMW : Mem G' (wC.setCell ⟨fob, j, none⟩ (.slice (some ⟨cb, 0, none⟩) v.length v.length)) := (h.mem.grown hg (fun g hg => by cases hg)).grown hg6 (fun g hg => by cases hg; exact h.out fob h1 hG1)
  refine ⟨ext G' cb (.plain (.cells (v.map (Value.int .i64)).toArray 3 (0, 0))), upd f j (.slice (some ⟨cb, 0, none⟩) v.length v.length), s, h.sub.trans (sub_ext hcn), ?_, Mem.ext (x := Gh.plain (.cells (v.map (Value.int .i64)).toArray 3 (0, 0))) hMW hbW, (h.only.then_new hg (fun g hg => by cases hg)).then_new hg6 (fun g hg => by cases hg; right; simp [mark2]), (h.rf.grown hg (by simp)).set j _ _ hlt (upd_self _ _ _) (fun t _ ht => upd_ne _ _ _ _ ht), (h.rs.grown hg (by simp)).grown hg6 (fun e => hne (Option.some.inj e).symm), ?_, ?_⟩
  · intro b x hx
    by_cases e : b = cb
    · right; omega
    · rw [ext_ne _ _ _ _ e] at hx; exact h.new b x hx
  · intro t h2 h3
    rw [upd_ne _ _ _ _ (by omega)]; exact h.zero t h2 (by omega)
  · intro t h2 h3
    by_cases e : t = j
    · subst e
      rw [hr h2, upd_self, (h.zero t hlt (Nat.le_refl _)).2]
      exact ⟨rfl, cb, rfl, ext_self _ _ _⟩
    · rw [upd_ne _ _ _ _ e]
      exact (h.cp t h2 (by omega)).mono (sub_ext hcn)
theorem CpAt.pairs {wC : World} {cb fb cap : Nat} {v : List (Int × Int)} (h : CpAt w w' G G' rk rds fob fsb L j f s) (hlt : j < L) (hne : fob ≠ fsb) (h1 : fsb < w.heap.size) (hG1 : G fsb = none) (hr : ∀ h : j < rds.length, rk rds[j] = RK.pairs fb v cap)
    (hg : w'.grownBy wC none) (hcb : cb = w'.heap.size) (hb : wC.heap[cb]? = some (.cells (v.flatMap encP).toArray 62 (0, 0))) :
    ∃ G'' f' s', CpAt w (wC.setCell ⟨fsb, j, none⟩ (.slice (some ⟨cb, 0, none⟩) v.length v.length)) G G'' rk rds fob fsb L (j + 1) f' s' := by
  have hcn : G' cb = none := h.mem.fresh (by omega)
  have hs := h.only.size
  have hg6 := grown_setCell wC fsb j (.slice (some ⟨cb, 0, none⟩) v.length v.length)
  have hbW : (wC.setCell ⟨fsb, j, none⟩ (.slice (some ⟨cb, 0, none⟩) v.length v.length)).heap[cb]? = some (.cells (v.flatMap encP).toArray 62 (0, 0)) := by
    rw [hg6.block cb (lt_of_block hb) (fun e => by have := Option.some.inj e; omega)]; exact hb
  have hMW : Mem G' (wC.setCell ⟨fsb, j, none⟩ (.slice (some ⟨cb, 0, none⟩) v.length v.length)) := (h.mem.grown hg (fun g hg => by cases hg)).grown hg6 (fun g hg => by cases hg; exact h.out fsb h1 hG1)
  refine ⟨ext G' cb (.plain (.cells (v.flatMap encP).toArray 62 (0, 0))), f, upd s j (.slice (some ⟨cb, 0, none⟩) v.length v.length), h.sub.trans (sub_ext hcn), ?_, Mem.ext (x := Gh.plain (.cells (v.flatMap encP).toArray 62 (0, 0))) hMW hbW, (h.only.then_new hg (fun g hg => by cases hg)).then_new hg6 (fun g hg => by cases hg; right; simp [mark2]), (h.rf.grown hg (by simp)).grown hg6 (fun e => hne (Option.some.inj e)), (h.rs.grown hg (by simp)).set j _ _ hlt (upd_self _ _ _) (fun t _ ht => upd_ne _ _ _ _ ht), ?_, ?_⟩
  · intro b x hx
    by_cases e : b = cb
    · right; omega
    · rw [ext_ne _ _ _ _ e] at hx; exact h.new b x hx
  · intro t h2 h3
    rw [upd_ne _ _ _ _ (by omega)]; exact h.zero t h2 (by omega)
  · intro t h2 h3
    by_cases e : t = j
    · subst e
      rw [hr h2, upd_self, (h.zero t hlt (Nat.le_refl _)).1]
      exact ⟨rfl, cb, rfl, ext_self _ _ _⟩
    · rw [upd_ne _ _ _ _ e]
      exact (h.cp t h2 (by omega)).mono (sub_ext hcn)
end

set_option maxHeartbeats 4000000 in
set_option maxRecDepth 100000 in
theorem loop9 (x : Nat → Value) (w : World) (Q : Exit → Act → World → Prop) (i n B fob fsb gr L cr : Nat) (G : Nat → Option Gh) (kf kl : Nat → Int) (rk : Nat → RK) (rd : Nat → RdIn) (rds : List Nat) (h35 : x 35 = .slice (some ⟨fob, 0, none⟩) L L) (h36 : x 36 = .slice (some ⟨fsb, 0, none⟩) L L) (h367 : x 367 = .slice (some ⟨gr, 0, none⟩) L cr) (h368 : x 368 = .int .i64 (L : Nat)) (h369 : x 369 = .int .i64 0)
    (hRd : Reads G i n B kf kl rk rd rds w) (hlen : rds.length = L) (hgr : PRow w gr rds) (hn : n ≤ 8) (hL : L ≤ 1954687338268) (hfo : RowF w fob 27 L (fun _ => .slice none 0 0)) (hfs : RowF w fsb 55 L (fun _ => .slice none 0 0))
    (hG1 : G fob = none) (hG2 : G fsb = none) (hne : fob ≠ fsb) (hgr1 : gr ≠ fob) (hgr2 : gr ≠ fsb)
    (hexit : ∀ x' w', Live [(0, x 0), (1, x 1), (8, x 8), (9, x 9), (10, x 10), (11, x 11), (12, x 12), (13, x 13), (14, x 14), (15, x 15), (35, x 35), (36, x 36), (157, x 157), (158, x 158), (367, x 367), (368, x 368)] x' → (∃ (G' : Nat → Option Gh) (f s : Nat → Value), CpAt w w' G G' rk rds fob fsb L L f s) → Q (.exit 16) ⟨frame x', []⟩ w') :
    Code.wp Yba.prog (.loop (loopAt Yba.f3 8)) Q ⟨frame x, []⟩ w := by
  have lfo := hfo.rowB.lt
  have lfs := hfs.rowB.lt
  refine wp_loop (fun a w' => ∃ (x' : Nat → Value), a = ⟨frame x', []⟩ ∧ ∃ (j : Nat), Live [(0, x 0), (1, x 1), (8, x 8), (9, x 9), (10, x 10), (11, x 11), (12, x 12), (13, x 13), (14, x 14), (15, x 15), (35, x 35), (36, x 36), (157, x 157), (158, x 158), (367, x 367), (368, x 368)] x' ∧ x' 369 = .int .i64 (j : Nat) ∧ j ≤ L ∧ ∃ (G' : Nat → Option Gh) (f s : Nat → Value), CpAt w w' G G' rk rds fob fsb L j f s) (fun a _ => L - (intOf (a.tmps.getD 369 (.bool false))).toNat) ⟨x, rfl, 0, live_cons (rfl) (live_cons (rfl) (live_cons (rfl) (live_cons (rfl) (live_cons (rfl) (live_cons (rfl) (live_cons (rfl) (live_cons (rfl) (live_cons (rfl) (live_cons (rfl) (live_cons (rfl) (live_cons (rfl) (live_cons (rfl) (live_cons (rfl) (live_cons (rfl) (live_cons (rfl) (live_nil _)))))))))))))))), h369, by omega, G, _, _, ⟨Sub.refl G, fun b x hx => .inl hx, hRd.mem, Only.refl _ _, hfo, hfs, fun t _ _ => ⟨rfl, rfl⟩, fun t _ ht => absurd ht (Nat.not_lt_zero t)⟩⟩ ?_
  rintro a w' ⟨x', rfl, j, hl, o369, hj, G', f, s, hA⟩
  have e0 := hl.head
  have e1 := hl.tail.head
  have e8 := hl.tail.tail.head
  have e9 := hl.tail.tail.tail.head
  have e10 := hl.tail.tail.tail.tail.head
  have e11 := hl.tail.tail.tail.tail.tail.head
  have e12 := hl.tail.tail.tail.tail.tail.tail.head
  have e13 := hl.tail.tail.tail.tail.tail.tail.tail.head
  have e14 := hl.tail.tail.tail.tail.tail.tail.tail.tail.head
  have e15 := hl.tail.tail.tail.tail.tail.tail.tail.tail.tail.head
  have e35 := (hl.tail.tail.tail.tail.tail.tail.tail.tail.tail.tail.head).trans h35
  have e36 := (hl.tail.tail.tail.tail.tail.tail.tail.tail.tail.tail.tail.head).trans h36
  have e157 := hl.tail.tail.tail.tail.tail.tail.tail.tail.tail.tail.tail.tail.head
  have e158 := hl.tail.tail.tail.tail.tail.tail.tail.tail.tail.tail.tail.tail.tail.head
  have e367 := (hl.tail.tail.tail.tail.tail.tail.tail.tail.tail.tail.tail.tail.tail.tail.head).trans h367
  have e368 := (hl.tail.tail.tail.tail.tail.tail.tail.tail.tail.tail.tail.tail.tail.tail.tail.head).trans h368
  rw [frame_lit, e0, e1, e8, e9, e10, e11, e12, e13, e14, e15, e35, e36, e157, e158, e367, e368, o369]
  clear e0 e1 e8 e9 e10 e11 e12 e13 e14 e15 e35 e36 e157 e158 e367 e368 hl o369
  conv => arg 2; whnf
  have H35 : Hid (x 35 = .slice (some ⟨fob, 0, none⟩) L L) := h35
  have H36 : Hid (x 36 = .slice (some ⟨fsb, 0, none⟩) L L) := h36
  have H367 : Hid (x 367 = .slice (some ⟨gr, 0, none⟩) L cr) := h367
  have H368 : Hid (x 368 = .int .i64 (L : Nat)) := h368
  clear h35 h36 h367 h368
  by_cases hlt : j < L
  · obtain ⟨d, hd⟩ : ∃ d, d = rds[j]'(by omega) := ⟨_, rfl⟩
    have hgr' : PRow w' gr rds := hgr.block (hA.only.block gr hgr.lt (mark2_none hgr1 hgr2))
    have cD : w'.cell? ⟨gr, j, none⟩ = some (ptr d) := by have h1 := hgr'.cell j (by omega); rw [← hd] at h1; exact h1
    have hok := (hRd.each j (by omega)).ok
    rw [← hd] at hok
    obtain ⟨cs, t, e, ec, te, fv, sv, a1, a2, a3, a4, a5, a6, a7, a8⟩ := hok.ex
    have c2 := cellOf (hA.mem d _ (hA.sub _ _ a1)) 2 _ a3
    have c3 := cellOf (hA.mem d _ (hA.sub _ _ a1)) 3 _ a4
    have HD : Hid (d = rds[j]'(by omega)) := hd
    clear hd a2 a6 a7
    have i1 : (j : Int) < (L : Int) := by omega
    match hrk : rk d with
    | Sum.inl (fb, v) =>
      rw [hrk] at a8
      obtain ⟨rfl, rfl, hvn, hGf⟩ := a8
      have hI : IRow w' fb v := hA.mem fb _ (hA.sub _ _ hGf)
      have hq1 := neq_nil_int (some ⟨fb, 0, none⟩) n n
      have hq2 := neq_nil_pr none 0 0
      have hmk := run_make_row' (P := Yba.prog) 27 3 (.int .i64 0) 8 Yba.underlying27 info3 rfl .i64 .i64 n (by omega) (by omega)
      go_upto_region 85 with fail
      obtain ⟨wM, hwM⟩ : ∃ wM, wM = w'.alloc (.cells (madeCells #[Value.int .i64 0] n) 3) := ⟨_, rfl⟩
      have hcp := fun ty => copy_ints w' wM ty fb n v hwM hI hvn
      have hgM : w'.grownBy wM none := by rw [hwM]; exact World.grownBy_alloc _ _ _
      have c2M := hgM.cell c2 (by simp)
      have c3M := hgM.cell c3 (by simp)
      have hRM : RowF wM w'.heap.size 3 n (fun _ => .int .i64 0) := by rw [hwM]; exact World.rowIs_made _ _ _ _
      rw [← hwM]
      clear hwM c2 hmk
      obtain ⟨cb, hcb⟩ : ∃ cb, cb = w'.heap.size := ⟨_, rfl⟩
      have Hcb : Hid (cb = w'.heap.size) := hcb
      rw [← hcb] at hcp hRM ⊢
      clear hcb
      go_upto_region 86 with fail
      obtain ⟨arr0, hr1, hr2, _⟩ := hRM
      have hb5 := setRow_heap wM cb arr0 (v.map (Value.int .i64)).toArray 3 (0, 0) hr1
      have hgC : wM.grownBy (wM.setRow cb (v.map (Value.int .i64)).toArray) (some cb) := grown_setRow _ _ _
      obtain ⟨wC, hwC⟩ : ∃ wC, wC = wM.setRow cb (v.map (Value.int .i64)).toArray := ⟨_, rfl⟩
      rw [← hwC] at hb5 hgC ⊢
      have HB5 : Hid (wC.heap[cb]? = some (.cells (v.map (Value.int .i64)).toArray 3 (0, 0))) := hb5
      clear hwC hb5 hcp hr1 hr2
      have hgw : w'.grownBy wC none := grown_then hgM hgC (fun q hq => by cases hq; left; rw [Hcb.out]; exact Nat.le_refl _)
      have hFC : RowF wC fob 27 L f := hA.rf.grown hgw (by simp)
      have c3C := hgC.cell c3M (fun e => by have h9 := lt_cell c3; rw [Option.some.inj e, Hcb.out] at h9; simp at h9)
      obtain ⟨cv, cF⟩ := hFC.rowB.cell j hlt
      have fF := hFC.rowB.frozen j
      have dne : d ≠ fob := by intro e; have h9 := a1; rw [e, hG1] at h9; cases h9
      obtain ⟨G2, f2, s2, hA2⟩ := hA.dense hlt hne lfo hG1 (fun h => by rw [← HD.out]; exact hrk) hgw Hcb.out HB5.out
      rw [hvn] at hA2
      have HA2 : Hid (CpAt w (wC.setCell ⟨fob, j, none⟩ (.slice (some ⟨cb, 0, none⟩) n n)) G G2 rk rds fob fsb L (j + 1) f2 s2) := hA2
      clear c2M c3M hA2 hA
      go_wp2
      refine ⟨end_frame2 rfl (fun y hy => ⟨live_cons (hy 0) (live_cons (hy 1) (live_cons (hy 8) (live_cons (hy 9) (live_cons (hy 10) (live_cons (hy 11) (live_cons (hy 12) (live_cons (hy 13) (live_cons (hy 14) (live_cons (hy 15) (live_cons ((hy 35).trans H35.out.symm) (live_cons ((hy 36).trans H36.out.symm) (live_cons (hy 157) (live_cons (hy 158) (live_cons ((hy 367).trans H367.out.symm) (live_cons ((hy 368).trans H368.out.symm) (live_nil _)))))))))))))))), j + 1, hy 369, by omega, G2, f2, s2, HA2.out⟩), ?_⟩
      show L - (intOf (.int .i64 ((j : Int) + 1))).toNat < L - (intOf (.int .i64 (j : Int))).toNat
      simp [intOf]; omega
    | Sum.inr (Sum.inl _) =>
      rw [hrk] at a8
      obtain ⟨rfl, rfl⟩ := a8
      have hq1 := neq_nil_int none 0 0
      have hq2 := neq_nil_pr none 0 0
      have HA2 : Hid (CpAt w w' G G' rk rds fob fsb L (j + 1) f s) := hA.keep hlt (fun h => by rw [← HD.out]; exact hrk)
      clear hA
      go_wp2
      refine ⟨end_frame rfl (fun y hy => ⟨j + 1, live_cons (hy 0) (live_cons (hy 1) (live_cons (hy 8) (live_cons (hy 9) (live_cons (hy 10) (live_cons (hy 11) (live_cons (hy 12) (live_cons (hy 13) (live_cons (hy 14) (live_cons (hy 15) (live_cons ((hy 35).trans H35.out.symm) (live_cons ((hy 36).trans H36.out.symm) (live_cons (hy 157) (live_cons (hy 158) (live_cons ((hy 367).trans H367.out.symm) (live_cons ((hy 368).trans H368.out.symm) (live_nil _)))))))))))))))), hy 369, by omega, G', f, s, HA2.out⟩), ?_⟩
      show L - (intOf (.int .i64 ((j : Int) + 1))).toNat < L - (intOf (.int .i64 (j : Int))).toNat
      simp [intOf]; omega
    | Sum.inr (Sum.inr (fb, v, cap)) =>
      rw [hrk] at a8
      obtain ⟨rfl, rfl, hRp, hGf⟩ := a8
      have hI := hA.mem fb _ (hA.sub _ _ hGf)
      have hvl := hRp.len
      have hq1 := neq_nil_int none 0 0
      have hq2 := neq_nil_pr (some ⟨fb, 0, none⟩) v.length cap
      have hmk := run_make_pairs v.length (by omega)
      have hcp := fun wM ty hwM => copy_prs w' wM ty fb cap v hwM hI.2
      clear hI hRp
      obtain ⟨m, hm⟩ : ∃ m, m = v.length := ⟨_, rfl⟩
      have Hm : Hid (m = v.length) := hm
      rw [← hm] at c3 hvl hq2 hmk hcp
      clear hm
      go_upto_region 89 with fail
      obtain ⟨wM, hwM⟩ : ∃ wM, wM = w'.alloc (.cells (madeCells #[.int .i64 0, .int .i64 0] (m * 2)) 62) := ⟨_, rfl⟩
      have hcp2 := fun ty => hcp wM ty hwM
      have hgM : w'.grownBy wM none := by rw [hwM]; exact World.grownBy_alloc _ _ _
      have c3M := hgM.cell c3 (by simp)
      have hr1 : wM.heap[w'.heap.size]? = some (.cells (madeCells #[.int .i64 0, .int .i64 0] (m * 2)) 62 (0, 0)) := by rw [hwM]; exact alloc_last _ _
      rw [← hwM]
      clear hwM c2 hmk hcp
      obtain ⟨cb, hcb⟩ : ∃ cb, cb = w'.heap.size := ⟨_, rfl⟩
      have Hcb : Hid (cb = w'.heap.size) := hcb
      rw [← hcb] at hcp2 hr1 ⊢
      clear hcb
      have hb5 := setRow_heap wM cb _ (v.flatMap encP).toArray 62 (0, 0) hr1
      clear hr1
      go_upto_region 90 with fail
      have hgC : wM.grownBy (wM.setRow cb (v.flatMap encP).toArray) (some cb) := grown_setRow _ _ _
      obtain ⟨wC, hwC⟩ : ∃ wC, wC = wM.setRow cb (v.flatMap encP).toArray := ⟨_, rfl⟩
      rw [← hwC] at hb5 hgC ⊢
      have HB5 : Hid (wC.heap[cb]? = some (.cells (v.flatMap encP).toArray 62 (0, 0))) := hb5
      clear hwC hb5 hcp2
      have hgw : w'.grownBy wC none := grown_then hgM hgC (fun q hq => by cases hq; left; rw [Hcb.out]; exact Nat.le_refl _)
      have hFC : RowF wC fsb 55 L s := hA.rs.grown hgw (by simp)
      obtain ⟨cv, cF⟩ := hFC.rowB.cell j hlt
      have fF := hFC.rowB.frozen j
      obtain ⟨G2, f2, s2, hA2⟩ := hA.pairs hlt hne lfs hG2 (fun h => by rw [← HD.out]; exact hrk) hgw Hcb.out HB5.out
      rw [← Hm.out] at hA2
      have HA2 : Hid (CpAt w (wC.setCell ⟨fsb, j, none⟩ (.slice (some ⟨cb, 0, none⟩) m m)) G G2 rk rds fob fsb L (j + 1) f2 s2) := hA2
      clear c3M hA2 hA
      go_wp2
      refine ⟨end_frame rfl (fun y hy => ⟨j + 1, live_cons (hy 0) (live_cons (hy 1) (live_cons (hy 8) (live_cons (hy 9) (live_cons (hy 10) (live_cons (hy 11) (live_cons (hy 12) (live_cons (hy 13) (live_cons (hy 14) (live_cons (hy 15) (live_cons ((hy 35).trans H35.out.symm) (live_cons ((hy 36).trans H36.out.symm) (live_cons (hy 157) (live_cons (hy 158) (live_cons ((hy 367).trans H367.out.symm) (live_cons ((hy 368).trans H368.out.symm) (live_nil _)))))))))))))))), hy 369, by omega, G2, f2, s2, HA2.out⟩), ?_⟩
      show L - (intOf (.int .i64 ((j : Int) + 1))).toNat < L - (intOf (.int .i64 (j : Int))).toNat
      simp [intOf]; omega
  · have hd : decide ((j : Int) < (L : Int)) = false := by simp; omega
    have hd2 : decide (j < L) = false := by simp; omega
    obtain rfl : j = L := by omega
    go_wp2
    refine at_frame (Q := fun a w => Q _ a w) rfl (fun y hy => ?_)
    exact hexit y _ (live_cons (hy 0) (live_cons (hy 1) (live_cons (hy 8) (live_cons (hy 9) (live_cons (hy 10) (live_cons (hy 11) (live_cons (hy 12) (live_cons (hy 13) (live_cons (hy 14) (live_cons (hy 15) (live_cons ((hy 35).trans H35.out.symm) (live_cons ((hy 36).trans H36.out.symm) (live_cons (hy 157) (live_cons (hy 158) (live_cons ((hy 367).trans H367.out.symm) (live_cons ((hy 368).trans H368.out.symm) (live_nil _))))))))))))))))) ⟨G', f, s, hA⟩
end Go.Proofs.Ybulkeidm
