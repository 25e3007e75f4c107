/-
  LawS6720BWhole: the function whole.
-/
import Derived.Test.YbulkeidmL13
import Derived.Test.YbulkeidmL12
import Derived.Test.YbulkeidmL11
import Derived.Test.YbulkeidmL10
namespace Go.Proofs.Ybulkeidm
open Go.RowKit

theorem info50 : (Yba.prog.info? 50).map (fun i => (i.zero, i.size, i.bytes)) = some (some (.pointer none), 1, 8) := by kernel_rfl
theorem info66 : (Yba.prog.info? 66).map (fun i => (i.zero, i.size, i.bytes)) = some (some (.pointer none), 1, 8) := by kernel_rfl
theorem info45 : (Yba.prog.info? 45).map (fun i => (i.zero, i.size, i.bytes)) = some (some (.slice none 0 0), 1, 24) := by kernel_rfl
theorem info77 : (Yba.prog.info? 77).map (fun i => (i.zero, i.size, i.bytes)) = some (some (.slice none 0 0), 1, 24) := by kernel_rfl
theorem info74 : (Yba.prog.info? 74).map (fun i => (i.zero, i.size, i.bytes)) = some (some (.slice none 0 0), 1, 24) := by kernel_rfl
theorem info4 : (Yba.prog.info? 4).map (fun i => (i.zero, i.size, i.bytes)) = some (some (.bool false), 1, 1) := by kernel_rfl
theorem alloc_size (w : World) (o : Obj) : (w.alloc o).heap.size = w.heap.size + 1 := by show (w.heap.push o).size = _; simp
theorem six_made (w : World) (N : Nat) {wB : World} (hB : wB = (((((w.alloc (.cells (madeCells #[Value.pointer none] N) 50)).alloc (.cells (madeCells #[Value.pointer none] N) 66)).alloc (.map #[] 0)).alloc (.cells (madeCells #[Value.slice none 0 0] N) 45)).alloc (.cells (madeCells #[Value.slice none 0 0] N) 77)).alloc (.cells (madeCells #[Value.slice none 0 0] N) 74)) :
    Six wB w.heap.size N (fun _ => .pointer none) (fun _ => .pointer none) (fun _ => .slice none 0 0) (fun _ => .slice none 0 0) (fun _ => .slice none 0 0) [] ∧ w.grownBy wB none := by
  obtain ⟨w1, h1⟩ : ∃ w1, w1 = w.alloc (.cells (madeCells #[Value.pointer none] N) 50) := ⟨_, rfl⟩
  obtain ⟨w2, h2⟩ : ∃ w2, w2 = w1.alloc (.cells (madeCells #[Value.pointer none] N) 66) := ⟨_, rfl⟩
  obtain ⟨w3, h3⟩ : ∃ w3, w3 = w2.alloc (.map #[] 0) := ⟨_, rfl⟩
  obtain ⟨w4, h4⟩ : ∃ w4, w4 = w3.alloc (.cells (madeCells #[Value.slice none 0 0] N) 45) := ⟨_, rfl⟩
  obtain ⟨w5, h5⟩ : ∃ w5, w5 = w4.alloc (.cells (madeCells #[Value.slice none 0 0] N) 77) := ⟨_, rfl⟩
  rw [← h1, ← h2, ← h3, ← h4, ← h5] at hB
  have s1 : w1.heap.size = w.heap.size + 1 := by rw [h1, alloc_size]
  have s2 : w2.heap.size = w.heap.size + 2 := by rw [h2, alloc_size, s1]
  have s3 : w3.heap.size = w.heap.size + 3 := by rw [h3, alloc_size, s2]
  have s4 : w4.heap.size = w.heap.size + 4 := by rw [h4, alloc_size, s3]
  have s5 : w5.heap.size = w.heap.size + 5 := by rw [h5, alloc_size, s4]
  have g1 : w.grownBy w1 none := by rw [h1]; exact World.grownBy_alloc _ _ _
  have g2 : w1.grownBy w2 none := by rw [h2]; exact World.grownBy_alloc _ _ _
  have g3 : w2.grownBy w3 none := by rw [h3]; exact World.grownBy_alloc _ _ _
  have g4 : w3.grownBy w4 none := by rw [h4]; exact World.grownBy_alloc _ _ _
  have g5 : w4.grownBy w5 none := by rw [h5]; exact World.grownBy_alloc _ _ _
  have g6 : w5.grownBy wB none := by rw [hB]; exact World.grownBy_alloc _ _ _
  have r1 : RowF w1 w.heap.size 50 N (fun _ => .pointer none) := by rw [h1]; exact World.rowIs_made _ _ _ _
  have r2 : RowF w2 w1.heap.size 66 N (fun _ => .pointer none) := by rw [h2]; exact World.rowIs_made _ _ _ _
  have r3 : PMap w3 w2.heap.size [] := ⟨#[], 0, by rw [h3]; exact alloc_last _ _, rfl⟩
  have r4 : RowF w4 w3.heap.size 45 N (fun _ => .slice none 0 0) := by rw [h4]; exact World.rowIs_made _ _ _ _
  have r5 : RowF w5 w4.heap.size 77 N (fun _ => .slice none 0 0) := by rw [h5]; exact World.rowIs_made _ _ _ _
  have r6 : RowF wB w5.heap.size 74 N (fun _ => .slice none 0 0) := by rw [hB]; exact World.rowIs_made _ _ _ _
  have g56 := g5.trans g6
  have g46 := g4.trans g56
  have g36 := g3.trans g46
  have g26 := g2.trans g36
  rw [s1] at r2
  rw [s2] at r3
  rw [s3] at r4
  rw [s4] at r5
  rw [s5] at r6
  exact ⟨⟨r1.grown g26 (by simp), r2.grown g36 (by simp), r3.block (g46.block _ r3.lt (by simp)), r4.grown g56 (by simp), r5.grown g6 (by simp), r6⟩, g1.trans g26⟩
theorem pick_zero (F : Nat → Value) (z : Value) : pick 0 F z = fun _ => z := funext fun k => by rw [pick, if_neg (by omega)]
theorem built0 {D : Nat → ObIn} {r0 N : Nat} {ob : Nat → OG} {cg : Nat → CG} {w : World} (h : Six w r0 N (fun _ => .pointer none) (fun _ => .pointer none) (fun _ => .slice none 0 0) (fun _ => .slice none 0 0) (fun _ => .slice none 0 0) []) :
    Built D r0 N 0 (fun _ => none) (fun _ => 0) (fun _ => 0) (fun _ => RK.none) ob cg [] w :=
  ⟨fun _ _ h => (by cases h), fun _ _ h => (by cases h), fun k hk => absurd hk (Nat.not_lt_zero k), fun _ h => (by cases h), fun k hk => absurd hk (Nat.not_lt_zero k), by rw [pick_zero, pick_zero, pick_zero, pick_zero, pick_zero]; exact h, Nat.le_refl _⟩
/-- 'argCopy := make([]*object, n); copy(argCopy, arg)'. -/
theorem copy_objs (we wf : World) (ty : TypeId) (g n : Nat) (f : Nat → Value) (hwf : wf = we.alloc (.cells (madeCells #[Value.pointer none] n) 50)) (hg : RowF we g 50 n f) (h1 : ∀ k, k < n → (f k).oneCell' = true) :
    (Builtin.copy_ #[30, 30] ty #[.slice (some ⟨we.heap.size, 0, none⟩) n n, .slice (some ⟨g, 0, none⟩) n n]).run Yba.prog wf = .ok (.int .i64 (n : Nat)) (wf.setRow we.heap.size ((List.range n).map f).toArray) := by
  have hR : RowF wf we.heap.size 50 n (fun _ => .pointer none) := by rw [hwf]; exact World.rowIs_made _ _ _ _
  obtain ⟨arr, a1, a2, _⟩ := hR
  have hg' : RowF wf g 50 n f := by rw [hwf]; exact hg.grown (World.grownBy_alloc we _ none) (by simp)
  have hlt : ∀ (j : Nat) (v : Value), ((List.range n).map f)[j]? = some v → j < n ∧ v = f j := fun j v hv => by
    rcases Nat.lt_or_ge j n with h3 | h3
    · simp [h3] at hv; exact ⟨h3, hv.symm⟩
    · rw [List.getElem?_eq_none (by simpa using h3)] at hv; cases hv
  have hnews : ∀ j v, ((List.range n).map f)[j]? = some v → wf.cell? ((⟨g, 0, none⟩ : Addr).add j) = some v := fun j v hv => by
    obtain ⟨h3, rfl⟩ := hlt j v hv
    rw [Go.WideShapes.add_plain, Nat.zero_add]
    exact hg'.cell j h3
  have h3 := run_copy_row (P := Yba.prog) wf 30 30 ty 50 we.heap.size 0 n n ⟨g, 0, none⟩ n n arr 50 ((List.range n).map f) Yba.underlying30 (by kernel_rfl) a1 (by simp) hnews (by simp; omega) (fun v hv => by
    obtain ⟨k, hk, rfl⟩ := List.mem_map.1 hv
    exact h1 k (List.mem_range.1 hk))
  have e : arr.toList.take 0 ++ (List.range n).map f ++ arr.toList.drop (0 + ((List.range n).map f).length) = (List.range n).map f := by simp [a2]
  rw [e, List.length_map, List.length_range] at h3
  exact h3
section
variable {D : Nat → ObIn} {W : World} {r0 N K : Nat} {G G2 : Nat → Option Gh} {kf kl : Nat → Int} {rk : Nat → RK} {ob : Nat → OG} {cg : Nat → CG} {E : List (Nat × Nat)} {s0 : Nat} {P : Nat → Option Nat} {w4 w5 w8 w9 : World} {fv rv : Value} {cb : Nat} {S : Nat → Bool}
theorem sett_false {U : Nat → Nat → Nat} {w : World} (h : Mem G w) : Mem (Sett U kf kl G fun _ => false) w := fun b x hx => by
  unfold Sett at hx
  cases hG : G b with
  | none => rw [hG] at hx; cases hx
  | some y =>
    rw [hG] at hx
    cases hx
    have h1 := h b y hG
    match y, h1 with
    | Sum.inl _, h1 => exact h1
    | Sum.inr (Sum.inl (_, _)), h1 => exact h1
    | Sum.inr (Sum.inr (Sum.inl (_, _))), h1 => exact h1
    | Sum.inr (Sum.inr (Sum.inr (Sum.inl (_, _)))), h1 => exact h1
    | Sum.inr (Sum.inr (Sum.inr (Sum.inr _))), h1 => exact h1
/-- What the call of orderObjects is handed. -/
structure Ready (D : Nat → ObIn) (r0 N K : Nat) (G G2 : Nat → Option Gh) (kf kl : Nat → Int) (rk : Nat → RK) (ob : Nat → OG) (E : List (Nat × Nat)) (s0 cb : Nat) (P : Nat → Option Nat) (w8 : World) : Prop where
  sub : Sub G G2
  ord : OrdIn G2 (Ud D) kf kl rk N ob (presOf D) E (r0 + 2) cb s0 ((List.range K).map P)
  mem : Mem G2 w8
  new : ∀ b x, G2 b = some x → G b = some x ∨ b = r0 + 2 ∨ b = cb ∨ b = s0
theorem ord_ready (hPk : PickAt D W r0 N K G kf kl rk ob cg E s0 (s0 + 1) P K w4 w5 fv) (hGlt : ∀ b y, G b = some y → b < s0) (hrs : r0 + 6 ≤ s0) (hs4 : s0 + 2 ≤ w4.heap.size) (hPN : ∀ k i, P k = some i → i < N) (hK : K ≤ 4096)
    (hk : ∀ k, k < w5.heap.size → w8.heap[k]? = w5.heap[k]?) (hcb : w5.heap.size ≤ cb) (hb8 : w8.heap[cb]? = some (.cells #[.pointer none, .map (some (r0 + 2))] 83 (0, 0))) :
    ∃ G2, Ready D r0 N K G G2 kf kl rk ob E s0 cb P w8 := by
  have hsz := hPk.size
  obtain ⟨arr, a1, a2, a3⟩ := hPk.arg
  obtain ⟨L, hL⟩ : ∃ L : List (Nat × Gh), L = [(r0 + 2, .pmap E), (cb, .plain (.cells #[.pointer none, .map (some (r0 + 2))] 83 (0, 0))), (s0, .plain (.cells arr 50 (0, 0)))] := ⟨_, rfl⟩
  have hkeys : L.map Prod.fst = [r0 + 2, cb, s0] := by rw [hL]; rfl
  have hnd : (L.map Prod.fst).Nodup := by
    rw [hkeys]
    simp only [List.nodup_cons, List.mem_cons, List.not_mem_nil, or_false, not_or, List.nodup_nil, and_true, not_false_eq_true]
    omega
  have hno : ∀ b, b = r0 + 2 ∨ b = cb ∨ b = s0 → G b = none := fun b hb => by
    cases hx : G b with
    | none => rfl
    | some x =>
      have h1 := hGlt b x hx
      have h2 := hPk.bt.lo b x hx
      omega
  have hin : ∀ p ∈ L, p.1 = r0 + 2 ∨ p.1 = cb ∨ p.1 = s0 := fun p hp => by
    have h1 : p.1 ∈ L.map Prod.fst := List.mem_map.2 ⟨p, hp, rfl⟩
    rw [hkeys] at h1
    simpa using h1
  have hsub : Sub G (exts G L) := sub_exts fun p hp => hno _ (hin p hp)
  have g1 : exts G L (r0 + 2) = some (.pmap E) := exts_mem hnd (by rw [hL]; simp)
  have g2 : exts G L cb = some (.plain (.cells #[.pointer none, .map (some (r0 + 2))] 83 (0, 0))) := exts_mem hnd (by rw [hL]; simp)
  have g3 : exts G L s0 = some (.plain (.cells arr 50 (0, 0))) := exts_mem hnd (by rw [hL]; simp)
  have hm8 : Mem G w8 := fun b x hx => Gh.at_block (hPk.bt.mem b x hx) (hk b (by have := hGlt b x hx; omega))
  refine ⟨exts G L, hsub, ⟨fun i hi => (hPk.bt.each i hi).ok.mono hsub (fun d _ => ⟨rfl, rfl, rfl⟩), ?_, g1, fun p hp => ?_, hPk.bt.look, ⟨_, _, g2, rfl⟩, ⟨arr, 50, g3, fun k h => ?_⟩, by simp; omega⟩, hm8.exts (fun p hp => ?_), fun b x hx => ?_⟩
  · intro i hi
    obtain ⟨k, _, h1⟩ := List.mem_map.1 hi
    exact hPN k i h1
  · obtain ⟨cs, t, h1⟩ := hPk.bt.keys p hp
    exact ⟨cs, t, hsub _ _ h1⟩
  · have hk2 : k < K := by simpa using h
    rw [a3 k hk2, pick_at hk2]
    simp
  · rw [hL] at hp
    simp only [List.mem_cons, List.not_mem_nil, or_false] at hp
    rcases hp with rfl | rfl | rfl
    · exact hPk.bt.six.mp.block (hk _ (by omega))
    · exact hb8
    · exact (hk _ (by omega)).trans a1
  · rcases exts_or hx with h1 | h1
    · exact .inr (hin _ h1)
    · exact .inl h1
theorem Ready.out (hR : Ready D r0 N K G G2 kf kl rk ob E s0 cb P w8) (hGlt : ∀ b y, G b = some y → b < s0) (hGlo : ∀ b y, G b = some y → r0 + 6 ≤ b) (b : Nat) (h1 : b < r0 + 6 ∨ s0 < b) (h2 : b ≠ r0 + 2) (h3 : b ≠ cb) (h4 : b ≠ s0) : G2 b = none := by
  cases hx : G2 b with
  | none => rfl
  | some x =>
    rcases hR.new b x hx with h5 | h5
    · have := hGlt b x h5; have := hGlo b x h5; omega
    · omega
theorem chk_ready (hPk : PickAt D W r0 N K G kf kl rk ob cg E s0 (s0 + 1) P K w4 w5 fv) (hGlt : ∀ b y, G b = some y → b < s0) (hrs : r0 + 6 ≤ s0) (hs4 : s0 + 2 ≤ w4.heap.size) (hk : ∀ k, k < w5.heap.size → w8.heap[k]? = w5.heap[k]?) (hcb : w5.heap.size ≤ cb) (hsz : w5.heap.size ≤ w8.heap.size)
    (hR : Ready D r0 N K G G2 kf kl rk ob E s0 cb P w8) (hA : OrdAt G2 (Ud D) kf kl rk N ob (hits (presOf D) ((List.range K).map P)) w8 w9 rv S) :
    Chk D r0 N G2 kf kl rk ob cg E (hits (presOf D) ((List.range K).map P)) S (s0 + 1) w9 := by
  have h45 := hPk.size
  have hb : ∀ b, (b < r0 + 6 ∨ s0 < b) → b ≠ r0 + 2 → b ≠ s0 → b < w5.heap.size → w9.heap[b]? = w5.heap[b]? := fun b h1 h2 h3 h4 => by
    rw [hA.only.block b (by omega) (hR.out hGlt hPk.bt.lo b h1 h2 (by omega) h3), hk b h4]
  have hs := hPk.bt.six
  refine ⟨hA.mem, fun i hi => (hPk.bt.each i hi).mono hR.sub (fun d _ => ⟨rfl, rfl, rfl⟩), hR.ord.keys, hR.ord.look, ⟨hs.r8.block (hb _ (by omega) (by omega) (by omega) (by omega)), hs.r9.block (hb _ (by omega) (by omega) (by omega) (by omega)), hA.mem.pmap hR.ord.map, hs.r11.block (hb _ (by omega) (by omega) (by omega) (by omega)), hs.r12.block (hb _ (by omega) (by omega) (by omega) (by omega)), hs.r13.block (hb _ (by omega) (by omega) (by omega) (by omega))⟩, hA.cons, hPk.tch.block (hb _ (by omega) (by omega) (by omega) (by omega))⟩
theorem own_same {w w' : World} {base : Nat} {e : TypeId} {size : Nat} {v : Value} {n : Nat} {xs : List Value} (h : w.ownsRow base e size v n xs) (hb : ∀ g, v.ownBlock = some g → g < w.heap.size → w'.heap[g]? = w.heap[g]?) : w'.ownsRow base e size v n xs := by
  refine ⟨h.1, ?_⟩
  rcases h.2 with h1 | ⟨g, cap, cur, hv, h2, hg, h3⟩
  · exact .inl h1
  · exact .inr ⟨g, cap, cur, hv, h2, by rw [hb g (by rw [hv]; rfl) (lt_of_block hg)]; exact hg, h3⟩
theorem own_cells {w : World} {base n : Nat} {v : Value} {H : List Nat} {q : Nat → Nat} (h : w.ownsRow base 67 1 v n (H.map fun i => ptr (q i))) (hn : n ≠ 0) (hH : H.length = n) : ∃ g cap, v = .slice (some ⟨g, 0, none⟩) n cap ∧ ∀ k, k < n → w.cell? ⟨g, k, none⟩ = some (ptr (q (H.getD k 0))) := by
  rcases h.2 with ⟨_, h2⟩ | ⟨g, cap, cur, hv, _, hg, _, _, _, ht⟩
  · exact absurd h2 hn
  · refine ⟨g, cap, hv, fun k hk => cellOf hg k _ ?_⟩
    have h1 : (H.map fun i => ptr (q i))[k]? = some (ptr (q (H.getD k 0))) := by
      have hk2 : k < H.length := by omega
      simp [hk2]
    rw [← ht, List.getElem?_take] at h1
    split at h1
    · simpa using h1
    · cases h1
end
set_option maxHeartbeats 4000000 in
set_option maxRecDepth 100000 in
theorem law_any (N K cO pc : Nat) (ao pa : Option Addr) (D : Nat → ObIn) (pv : Nat → Int) (W : World) (hO : ObsAt W ao N D) (hp : InRow W pa K fun k => .int .u8 (pv k)) (hp0 : ∀ k, k < K → 0 ≤ pv k ∧ pv k < 256) :
    Calls Yba.prog 3 #[.slice ao N cO, .slice pa K pc] W fun e w' => e = .returned (.bool true) ∧ Below W.heap.size W w' := by
  go_enter Yba.func3, Yba.ntmps3
  by_cases hN : N ≤ 4096
  · by_cases hK : K ≤ 4096
    · have i1 : decide ((4096 : Int) < (N : Int)) = false := by simp; omega
      have i2 : decide ((4096 : Int) < (K : Int)) = false := by simp; omega
      go_wp2
      clear i1 i2
      refine wp_frame rfl (fun x1 hx => ?_)
      refine loop1 x1 W _ ao N cO D (.slice pa K pc) (live_cons (hx 0) (live_cons (hx 1) (live_cons (hx 85) (live_nil _)))) (hx 86) ⟨0, hx 5⟩ hO hN ?_
      rintro x2 wA hl2 ⟨t, e5⟩ ⟨ka, hka⟩
      have e0 : x2 0 = .slice ao N cO := hl2.head
      have e1 : x2 1 = .slice pa K pc := hl2.tail.head
      rw [frame_lit, e0, e1, e5]
      clear e0 e1 e5 hl2 hx
      have hBA : Below W.heap.size W wA := by rw [hka]; exact ⟨rfl, rfl, rfl, Nat.le_refl _, fun _ _ => rfl⟩
      clear hka
      by_cases ht : t ≤ 4096
      · have i3 : decide ((4096 : Int) < t) = false := by simp; omega
        have hmk8 := run_make_row' (P := Yba.prog) 30 50 (.pointer none) 8 Yba.underlying30 info50 rfl .i64 .i64 N (by omega) (by omega)
        have hmk9 := run_make_row' (P := Yba.prog) 31 66 (.pointer none) 8 Yba.underlying31 info66 rfl .i64 .i64 N (by omega) (by omega)
        have hmk11 := run_make_row' (P := Yba.prog) 33 45 (.slice none 0 0) 24 Yba.underlying33 info45 rfl .i64 .i64 N (by omega) (by omega)
        have hmk12 := run_make_row' (P := Yba.prog) 34 77 (.slice none 0 0) 24 Yba.underlying34 info77 rfl .i64 .i64 N (by omega) (by omega)
        have hmk13 := run_make_row' (P := Yba.prog) 35 74 (.slice none 0 0) 24 Yba.underlying35 info74 rfl .i64 .i64 N (by omega) (by omega)
        have hmm := @run_makeMap Yba.prog
        go_wp2
        obtain ⟨wB, hwB⟩ : ∃ wB, wB = (((((wA.alloc (.cells (madeCells #[Value.pointer none] N) 50)).alloc (.cells (madeCells #[Value.pointer none] N) 66)).alloc (.map #[] 0)).alloc (.cells (madeCells #[Value.slice none 0 0] N) 45)).alloc (.cells (madeCells #[Value.slice none 0 0] N) 77)).alloc (.cells (madeCells #[Value.slice none 0 0] N) 74) := ⟨_, rfl⟩
        obtain ⟨hSx, hgB⟩ := six_made wA N hwB
        rw [← hwB]
        clear hwB hmk8 hmk9 hmk11 hmk12 hmk13 hmm i3
        obtain ⟨r0, hr0⟩ : ∃ r0, r0 = wA.heap.size := ⟨_, rfl⟩
        have hWr : W.heap.size ≤ r0 := by rw [hr0]; exact hBA.size
        rw [← hr0] at hSx ⊢
        have hBB : Below W.heap.size W wB := below_grown hBA hgB (fun g hg => by cases hg) hBA.size
        clear hr0 hgB hBA
        refine wp_frame rfl (fun x1 hx => ?_)
        refine loop3 x1 wB W _ r0 N cO ao D (fun _ => ⟨0, 0, 0, 0, 0, 0, 0, []⟩) (fun _ => ⟨0, 0, 0, fun _ => .bool false, fun _ => .bool false⟩) (hx 0) (hx 8) (hx 9) (hx 10) (hx 11) (hx 12) (hx 13) (hx 157) (hx 14) (hx 158) hO hBB hWr hN (built0 hSx) ?_
        rintro x2 w3 G kf kl rk ob cg E hl2 e14 hB3 hBt
        have e0 : x2 0 = .slice ao N cO := (hl2.head).trans (hx 0)
        have e1 : x2 1 = .slice pa K pc := (hl2.tail.head).trans (hx 1)
        have e8 : x2 8 = .slice (some ⟨r0, 0, none⟩) N N := (hl2.tail.tail.head).trans (hx 8)
        have e9 : x2 9 = .slice (some ⟨r0 + 1, 0, none⟩) N N := (hl2.tail.tail.tail.head).trans (hx 9)
        have e10 : x2 10 = .map (some (r0 + 2)) := (hl2.tail.tail.tail.tail.head).trans (hx 10)
        have e11 : x2 11 = .slice (some ⟨r0 + 3, 0, none⟩) N N := (hl2.tail.tail.tail.tail.tail.head).trans (hx 11)
        have e12 : x2 12 = .slice (some ⟨r0 + 4, 0, none⟩) N N := (hl2.tail.tail.tail.tail.tail.tail.head).trans (hx 12)
        have e13 : x2 13 = .slice (some ⟨r0 + 5, 0, none⟩) N N := (hl2.tail.tail.tail.tail.tail.tail.tail.head).trans (hx 13)
        have e157 : x2 157 = .int .i64 (N : Nat) := (hl2.tail.tail.tail.tail.tail.tail.tail.tail.head).trans (hx 157)
        rw [frame_lit, e0, e1, e8, e9, e10, e11, e12, e13, e157, e14]
        clear e0 e1 e8 e9 e10 e11 e12 e13 e157 e14 hl2 hx
        have hmkA := run_make_row' (P := Yba.prog) 30 50 (.pointer none) 8 Yba.underlying30 info50 rfl .i64 .i64 K (by omega) (by omega)
        have hmkT := run_make_row' (P := Yba.prog) 78 4 (.bool false) 1 Yba.underlying78 info4 rfl .i64 .i64 N (by omega) (by omega)
        clear hSx hBB
        go_wp2
        obtain ⟨w4, hw4⟩ : ∃ w4, w4 = (w3.alloc (.cells (madeCells #[Value.pointer none] K) 50)).alloc (.cells (madeCells #[Value.bool false] N) 4) := ⟨_, rfl⟩
        have hg4 : w3.grownBy w4 none := by rw [hw4]; exact (World.grownBy_alloc _ _ _).trans (World.grownBy_alloc _ _ _)
        have hrA : RowF w4 w3.heap.size 50 K (fun _ => .pointer none) ∧ RowF w4 (w3.heap.size + 1) 4 N (fun _ => .bool false) := by
          rw [hw4]
          have h1 : RowF (w3.alloc (.cells (madeCells #[Value.pointer none] K) 50)) w3.heap.size 50 K (fun _ => .pointer none) := World.rowIs_made _ _ _ _
          have h2 : RowF ((w3.alloc (.cells (madeCells #[Value.pointer none] K) 50)).alloc (.cells (madeCells #[Value.bool false] N) 4)) (w3.alloc (.cells (madeCells #[Value.pointer none] K) 50)).heap.size 4 N (fun _ => .bool false) := World.rowIs_made _ _ _ _
          rw [alloc_size] at h2
          exact ⟨h1.grown (World.grownBy_alloc _ _ none) (by simp), h2⟩
        rw [← hw4]
        clear hw4 hmkA hmkT
        obtain ⟨s0, hs0⟩ : ∃ s0, s0 = w3.heap.size := ⟨_, rfl⟩
        have hGlt : ∀ b y, G b = some y → b < s0 := fun b y hb => by rw [hs0]; exact hBt.mem.lt hb
        have hrs : r0 + 6 ≤ s0 := by rw [hs0]; exact hBt.six.lt
        have hB4 : Below W.heap.size W w4 := below_grown hB3 hg4 (fun g hg => by cases hg) hB3.size
        have hBt4 : Built D r0 N N G kf kl rk ob cg E w4 := hBt.above (s0 := s0) hg4 hGlt hrs (fun g hg => by cases hg)
        rw [← hs0] at hrA ⊢
        clear hs0 hg4 hB3 hBt
        obtain ⟨P, hP⟩ : ∃ P : Nat → Option Nat, P = fun k => pkOf N (pv k) := ⟨_, rfl⟩
        refine wp_frame rfl (fun x1 hx => ?_)
        refine loop10 x1 w4 W _ r0 N K cO pc s0 (s0 + 1) s0 ao pa D G kf kl rk ob cg E P pv (hx 0) (hx 8) (hx 9) (hx 41) (hx 42) (hx 438) (hx 439) (hx 43) (hx 440) (fun k _ => by rw [hP]) hO hp hp0 hN hK hGlt hrs (Nat.le_refl _) (by omega) (by omega) hWr hB4 hBt4 hrA.1 hrA.2 ?_
        rintro x2 w5 hl2 hPk
        obtain ⟨H, hH⟩ : ∃ H, H = hits (presOf D) ((List.range K).map P) := ⟨_, rfl⟩
        obtain ⟨mh, hmh⟩ : ∃ mh, mh = H.length := ⟨_, rfl⟩
        obtain ⟨wao, wc, e43⟩ : ∃ a c, x2 43 = .slice a mh c := by
          rw [hmh, hH]
          rcases hPk.own.2 with ⟨h1, h2⟩ | ⟨g, cap, cur, h1, _⟩
          · exact ⟨none, 0, by rw [h1, h2]⟩
          · exact ⟨_, cap, h1⟩
        rw [e43] at hPk
        have HH : Hid (H = hits (presOf D) ((List.range K).map P)) := hH
        have Hmh : Hid (mh = H.length) := hmh
        have HP : Hid (P = fun k => pkOf N (pv k)) := hP
        clear hH hmh hP
        have e0 : x2 0 = .slice ao N cO := (hl2.head).trans (hx 0)
        have e8 : x2 8 = .slice (some ⟨r0, 0, none⟩) N N := (hl2.tail.head).trans (hx 8)
        have e9 : x2 9 = .slice (some ⟨r0 + 1, 0, none⟩) N N := (hl2.tail.tail.head).trans (hx 9)
        have e10 : x2 10 = .map (some (r0 + 2)) := (hl2.tail.tail.tail.head).trans (hx 10)
        have e11 : x2 11 = .slice (some ⟨r0 + 3, 0, none⟩) N N := (hl2.tail.tail.tail.tail.head).trans (hx 11)
        have e12 : x2 12 = .slice (some ⟨r0 + 4, 0, none⟩) N N := (hl2.tail.tail.tail.tail.tail.head).trans (hx 12)
        have e13 : x2 13 = .slice (some ⟨r0 + 5, 0, none⟩) N N := (hl2.tail.tail.tail.tail.tail.tail.head).trans (hx 13)
        have e14 : x2 14 = .int .i64 (E.length : Nat) := (hl2.tail.tail.tail.tail.tail.tail.tail.head).trans (hx 14)
        have e41 : x2 41 = .slice (some ⟨s0, 0, none⟩) K K := (hl2.tail.tail.tail.tail.tail.tail.tail.tail.head).trans (hx 41)
        have e42 : x2 42 = .slice (some ⟨s0 + 1, 0, none⟩) N N := (hl2.tail.tail.tail.tail.tail.tail.tail.tail.tail.head).trans (hx 42)
        have e438 : x2 438 = .slice pa K pc := (hl2.tail.tail.tail.tail.tail.tail.tail.tail.tail.tail.head).trans (hx 438)
        have e439 : x2 439 = .int .i64 (K : Nat) := (hl2.tail.tail.tail.tail.tail.tail.tail.tail.tail.tail.tail.head).trans (hx 439)
        rw [frame_lit, e0, e8, e9, e10, e11, e12, e13, e14, e41, e42, e438, e439, e43]
        clear e0 e8 e9 e10 e11 e12 e13 e14 e41 e42 e438 e439 e43 hl2 hx
        have hs4 : s0 + 2 ≤ w4.heap.size := hrA.2.rowB.lt
        clear hrA hB4 hBt4
        have hmkC := run_make_row' (P := Yba.prog) 30 50 (.pointer none) 8 Yba.underlying30 info50 rfl .i64 .i64 K (by omega) (by omega)
        go_upto_region 109 with fail
        obtain ⟨fA, hfA⟩ : ∃ fA, fA = pick K (fun j => optPtr ((P j).map fun i => (ob i).po)) (.pointer none) := ⟨_, rfl⟩
        have harg := hPk.arg
        rw [← hfA] at harg
        have hone : ∀ k, k < K → (fA k).oneCell' = true := fun k hk => by
          rw [hfA, pick, if_pos hk]
          show (optPtr ((P k).map fun i => (ob i).po)).oneCell' = true
          cases P k <;> rfl
        obtain ⟨w6, hw6⟩ : ∃ w6, w6 = w5.alloc (.cells (madeCells #[Value.pointer none] K) 50) := ⟨_, rfl⟩
        have hcp := fun ty => copy_objs w5 w6 ty s0 K fA hw6 harg hone
        have hg6 : w5.grownBy w6 none := by rw [hw6]; exact World.grownBy_alloc _ _ _
        have hrf : w6.heap[w5.heap.size]? = some (.cells (madeCells #[Value.pointer none] K) 50 (0, 0)) := by rw [hw6]; exact alloc_last _ _
        have hs6 : w6.heap.size = w5.heap.size + 1 := by rw [hw6, alloc_size]
        rw [← hw6]
        have HfA : Hid (fA = pick K (fun j => optPtr ((P j).map fun i => (ob i).po)) (.pointer none)) := hfA
        clear hw6 hmkC hone hfA
        obtain ⟨cpb, hcpb⟩ : ∃ cpb, cpb = w5.heap.size := ⟨_, rfl⟩
        have Hcpb : Hid (cpb = w5.heap.size) := hcpb
        rw [← hcpb] at hcp hrf hs6 ⊢
        clear hcpb
        go_upto_region 110 with fail
        obtain ⟨w7, hw7⟩ : ∃ w7, w7 = w6.setRow cpb ((List.range K).map fA).toArray := ⟨_, rfl⟩
        have hb7 : w7.heap[cpb]? = some (.cells ((List.range K).map fA).toArray 50 (0, 0)) := by rw [hw7]; exact setRow_heap w6 cpb _ _ 50 (0, 0) hrf
        have hg7 : w6.grownBy w7 (some cpb) := by rw [hw7]; exact grown_setRow _ _ _
        have hs7 : w7.heap.size = cpb + 1 := by rw [hw7]; simp only [World.setRow, Array.size_modify]; exact hs6
        rw [← hw7]
        clear hw7 hcp hrf hs6
        have Hb7 : Hid (w7.heap[cpb]? = some (.cells ((List.range K).map fA).toArray 50 (0, 0))) := hb7
        have Hs7 : Hid (w7.heap.size = cpb + 1) := hs7
        clear hb7 hs7
        go_upto_region 111 with fail
        obtain ⟨w8, hw8⟩ : ∃ w8, w8 = w7.alloc (.cells #[.pointer none, .map (some (r0 + 2))] 83) := ⟨_, rfl⟩
        have hg8 : w7.grownBy w8 none := by rw [hw8]; exact World.grownBy_alloc _ _ _
        have hb8 : w8.heap[w7.heap.size]? = some (.cells #[.pointer none, .map (some (r0 + 2))] 83 (0, 0)) := by rw [hw8]; exact alloc_last _ _
        rw [← hw8]
        clear hw8
        rw [Hs7.out] at hb8 ⊢
        have h45 := hPk.size
        have hg58 : w5.grownBy w8 none := grown_then (grown_then hg6 hg7 (fun q hq => by cases hq; left; rw [Hcpb.out]; exact Nat.le_refl _)) hg8 (fun q hq => by cases hq)
        have hk58 : ∀ k, k < w5.heap.size → w8.heap[k]? = w5.heap[k]? := fun k hk => hg58.block k hk (by simp)
        have hPN : ∀ k i, P k = some i → i < N := fun k i hi => by
          rw [HP.out] at hi
          simp only [pkOf] at hi
          split at hi
          · cases hi; assumption
          · cases hi
        obtain ⟨G2, hR⟩ := ord_ready (cb := cpb + 1) hPk hGlt hrs hs4 hPN hK hk58 (by rw [Hcpb.out]; omega) hb8
        have HC := orderObjects_any G2 (Ud D) kf kl rk N ob (presOf D) E (r0 + 2) (cpb + 1) s0 K K ((List.range K).map P) w8 hR.ord (sett_false hR.mem) (by simp)
        rw [← HH.out] at HC
        have hcp8 : w8.heap[cpb]? = some (.cells ((List.range K).map fA).toArray 50 (0, 0)) := by rw [hg8.block cpb (lt_of_block Hb7.out) (by simp)]; exact Hb7.out
        have Hcp8 : Hid (w8.heap[cpb]? = some (.cells ((List.range K).map fA).toArray 50 (0, 0))) := hcp8
        clear hcp8 hb8 hg6 hg7 harg
        go_upto_region 112 with (go_at_call 5; refine HC.mono ?_; rintro e w9 ⟨rv, S, rfl, hOA⟩)
        clear HC
        have hOA' : OrdAt G2 (Ud D) kf kl rk N ob (hits (presOf D) ((List.range K).map P)) w8 w9 rv S := by rw [← HH.out]; exact hOA
        have hCk := chk_ready hPk hGlt hrs hs4 hk58 (cb := cpb + 1) (by rw [Hcpb.out]; omega) hg58.size hR hOA'
        rw [← HH.out] at hCk
        have HCk : Hid (Chk D r0 N G2 kf kl rk ob cg E H S (s0 + 1) w9) := hCk
        have hBel8 : Below W.heap.size W w8 := below_grown hPk.bel hg58 (fun g hg => by cases hg) hPk.bel.size
        have HBel9 : Hid (Below W.heap.size W w9) := hBel8.trans (hOA.only.below hBel8.size (fun b y hy => by
          rcases hR.new b y hy with h1 | h1
          · have := hPk.bt.lo b y h1; omega
          · have := hPk.bel.size; have := Hcpb.out; omega))
        obtain ⟨pA, hpA⟩ : ∃ pA : Nat → Option Addr, pA = fun k => (P k).map fun i => (⟨(ob i).po, 0, none⟩ : Addr) := ⟨_, rfl⟩
        have hpA2 : ∀ k, optPtr ((P k).map fun i => (ob i).po) = .pointer (pA k) := fun k => by rw [hpA]; simp only; cases P k <;> rfl
        have HcA : Hid (∀ k, k < K → w9.cell? ⟨s0, k, none⟩ = some (.pointer (pA k))) := by
          intro k hk
          obtain ⟨cs, t, h1, h2⟩ := hR.ord.arg
          have h3 := cellOf (hOA.mem.plain h1) k _ (h2 k (by simpa using hk))
          rw [← hpA2 k]
          simpa using h3
        have HcC : Hid (∀ k, k < K → w9.cell? ⟨cpb, k, none⟩ = some (.pointer (pA k))) := by
          intro k hk
          have hc := Hcpb.out
          have h3 : w9.heap[cpb]? = some (.cells ((List.range K).map fA).toArray 50 (0, 0)) := by
            rw [hOA.only.block cpb (lt_of_block Hcp8.out) (hR.out hGlt hPk.bt.lo cpb (by omega) (by omega) (by omega) (by omega))]
            exact Hcp8.out
          refine cellOf h3 k _ ?_
          rw [← hpA2 k, HfA.out]
          simp [hk, pick]
        have hnil := hOA.nil
        have hgot := hOA.own
        have hwant := own_same (w' := w9) hPk.own (fun g hg hlt => by
          have h1 := own_lt hPk.own hg
          have hc := Hcpb.out
          rw [hOA.only.block g (Nat.lt_of_lt_of_le hlt hg58.size) (hR.out hGlt hPk.bt.lo g (by omega) (by omega) (by omega) (by omega)), hk58 g hlt])
        rw [← HH.out, ← Hmh.out] at hwant
        rw [← Hmh.out] at hgot
        have hmb : mh ≤ 4096 := by
          have h1 : (hits (presOf D) ((List.range K).map P)).length ≤ ((List.range K).map P).length := List.length_filterMap_le _ _
          rw [← HH.out, ← Hmh.out] at h1
          simp at h1; omega
        clear hpA hpA2 hCk hOA hOA' hBel8 hPk hR hg8 hg58 hk58 hPN hGlt
        by_cases hm0 : mh = 0
        · have hrv := hnil (List.eq_nil_of_length_eq_zero (by rw [← Hmh.out]; exact hm0))
          subst hrv
          subst hm0
          have hq := neq_nil_oo
          clear hnil hgot hwant
          go_wp2
          obtain ⟨wX, hwX⟩ : ∃ wX, wX = w9 := ⟨_, rfl⟩
          have hgX : w9.grownBy wX none := by rw [hwX]; exact World.grownBy.refl _ _
          rw [← hwX]
          clear hwX
          refine wp_frame rfl (fun x3 hx3 => ?_)
          refine loop12 x3 wX _ s0 cpb K pA (hx3 41) (hx3 47) (hx3 519) (hx3 520) hK (fun k hk => hgX.cell (HcA.out k hk) (by simp)) (fun k hk => hgX.cell (HcC.out k hk) (by simp)) ?_
          rintro x4 w11 hl4 hg11
          have e0 : x4 0 = .slice ao N cO := (hl4.head).trans (hx3 0)
          have e8 : x4 8 = .slice (some ⟨r0, 0, none⟩) N N := (hl4.tail.head).trans (hx3 8)
          have e9 : x4 9 = .slice (some ⟨r0 + 1, 0, none⟩) N N := (hl4.tail.tail.head).trans (hx3 9)
          have e10 : x4 10 = .map (some (r0 + 2)) := (hl4.tail.tail.tail.head).trans (hx3 10)
          have e11 : x4 11 = .slice (some ⟨r0 + 3, 0, none⟩) N N := (hl4.tail.tail.tail.tail.head).trans (hx3 11)
          have e12 : x4 12 = .slice (some ⟨r0 + 4, 0, none⟩) N N := (hl4.tail.tail.tail.tail.tail.head).trans (hx3 12)
          have e13 : x4 13 = .slice (some ⟨r0 + 5, 0, none⟩) N N := (hl4.tail.tail.tail.tail.tail.tail.head).trans (hx3 13)
          have e14 : x4 14 = .int .i64 (E.length : Nat) := (hl4.tail.tail.tail.tail.tail.tail.tail.head).trans (hx3 14)
          have e41 : x4 41 = .slice (some ⟨s0, 0, none⟩) K K := (hl4.tail.tail.tail.tail.tail.tail.tail.tail.head).trans (hx3 41)
          have e42 : x4 42 = .slice (some ⟨s0 + 1, 0, none⟩) N N := (hl4.tail.tail.tail.tail.tail.tail.tail.tail.tail.head).trans (hx3 42)
          have e47 : x4 47 = .slice (some ⟨cpb, 0, none⟩) K K := (hl4.tail.tail.tail.tail.tail.tail.tail.tail.tail.tail.head).trans (hx3 47)
          have e519 : x4 519 = .int .i64 (K : Nat) := (hl4.tail.tail.tail.tail.tail.tail.tail.tail.tail.tail.tail.head).trans (hx3 519)
          rw [frame_lit, e0, e8, e9, e10, e11, e12, e13, e14, e41, e42, e47, e519]
          clear e0 e8 e9 e10 e11 e12 e13 e14 e41 e42 e47 e519 hl4 hx3
          have hgY : w9.grownBy w11 none := hgX.trans hg11
          have hCk11 := HCk.out.grown hgY
          have hlm := hCk11.six.mp.len
          have hB11 : Below W.heap.size W w11 := below_grown HBel9.out hgY (fun g hg => by cases hg) HBel9.out.size
          go_wp2
          refine wp_frame rfl (fun x5 hx5 => ?_)
          refine loop13 x5 w11 _ r0 N (s0 + 1) cO ao D G2 kf kl rk ob cg E H S (hx5 0) (hx5 8) (hx5 9) (hx5 10) (hx5 11) (hx5 12) (hx5 13) (hx5 42) (hx5 538) (hx5 539) hCk11 hN (hO.below hB11 (Nat.le_refl _)) ?_
          intro x6 w12 hg12
          rw [frame_lit]
          go_wp2
          go_ret
          exact ⟨rfl, below_grown hB11 hg12 (fun g hg => by cases hg) hB11.size⟩
        · obtain ⟨gb, gc, rfl, hcg⟩ := own_cells (q := fun i => (ob i).poo) hgot hm0 Hmh.out.symm
          obtain ⟨wb, wc', hwe, hcw⟩ := own_cells (q := fun i => (ob i).poo) hwant hm0 Hmh.out.symm
          cases hwe
          have hm1 : ((mh : Int) == 0) = false := by simp; omega
          clear hnil hgot hwant
          go_wp2
          refine wp_frame rfl (fun x1 hx => ?_)
          refine loop11 x1 w9 _ gb gc wb wc mh (fun k => (ob (H.getD k 0)).poo) (hx 49) (hx 43) (hx 504) (hx 505) hmb hcg hcw ?_
          rintro x2 wX hl2 hgX
          have e0 : x2 0 = .slice ao N cO := (hl2.head).trans (hx 0)
          have e8 : x2 8 = .slice (some ⟨r0, 0, none⟩) N N := (hl2.tail.head).trans (hx 8)
          have e9 : x2 9 = .slice (some ⟨r0 + 1, 0, none⟩) N N := (hl2.tail.tail.head).trans (hx 9)
          have e10 : x2 10 = .map (some (r0 + 2)) := (hl2.tail.tail.tail.head).trans (hx 10)
          have e11 : x2 11 = .slice (some ⟨r0 + 3, 0, none⟩) N N := (hl2.tail.tail.tail.tail.head).trans (hx 11)
          have e12 : x2 12 = .slice (some ⟨r0 + 4, 0, none⟩) N N := (hl2.tail.tail.tail.tail.tail.head).trans (hx 12)
          have e13 : x2 13 = .slice (some ⟨r0 + 5, 0, none⟩) N N := (hl2.tail.tail.tail.tail.tail.tail.head).trans (hx 13)
          have e14 : x2 14 = .int .i64 (E.length : Nat) := (hl2.tail.tail.tail.tail.tail.tail.tail.head).trans (hx 14)
          have e41 : x2 41 = .slice (some ⟨s0, 0, none⟩) K K := (hl2.tail.tail.tail.tail.tail.tail.tail.tail.head).trans (hx 41)
          have e42 : x2 42 = .slice (some ⟨s0 + 1, 0, none⟩) N N := (hl2.tail.tail.tail.tail.tail.tail.tail.tail.tail.head).trans (hx 42)
          have e43 : x2 43 = .slice (some ⟨wb, 0, none⟩) mh wc := (hl2.tail.tail.tail.tail.tail.tail.tail.tail.tail.tail.head).trans (hx 43)
          have e47 : x2 47 = .slice (some ⟨cpb, 0, none⟩) K K := (hl2.tail.tail.tail.tail.tail.tail.tail.tail.tail.tail.tail.head).trans (hx 47)
          have e49 : x2 49 = .slice (some ⟨gb, 0, none⟩) mh gc := (hl2.tail.tail.tail.tail.tail.tail.tail.tail.tail.tail.tail.tail.head).trans (hx 49)
          have e504 : x2 504 = .int .i64 (mh : Nat) := (hl2.tail.tail.tail.tail.tail.tail.tail.tail.tail.tail.tail.tail.tail.head).trans (hx 504)
          rw [frame_lit, e0, e8, e9, e10, e11, e12, e13, e14, e41, e42, e43, e47, e49, e504]
          clear e0 e8 e9 e10 e11 e12 e13 e14 e41 e42 e43 e47 e49 e504 hl2 hx
          go_wp2
          refine wp_frame rfl (fun x3 hx3 => ?_)
          refine loop12 x3 wX _ s0 cpb K pA (hx3 41) (hx3 47) (hx3 519) (hx3 520) hK (fun k hk => hgX.cell (HcA.out k hk) (by simp)) (fun k hk => hgX.cell (HcC.out k hk) (by simp)) ?_
          rintro x4 w11 hl4 hg11
          have e0 : x4 0 = .slice ao N cO := (hl4.head).trans (hx3 0)
          have e8 : x4 8 = .slice (some ⟨r0, 0, none⟩) N N := (hl4.tail.head).trans (hx3 8)
          have e9 : x4 9 = .slice (some ⟨r0 + 1, 0, none⟩) N N := (hl4.tail.tail.head).trans (hx3 9)
          have e10 : x4 10 = .map (some (r0 + 2)) := (hl4.tail.tail.tail.head).trans (hx3 10)
          have e11 : x4 11 = .slice (some ⟨r0 + 3, 0, none⟩) N N := (hl4.tail.tail.tail.tail.head).trans (hx3 11)
          have e12 : x4 12 = .slice (some ⟨r0 + 4, 0, none⟩) N N := (hl4.tail.tail.tail.tail.tail.head).trans (hx3 12)
          have e13 : x4 13 = .slice (some ⟨r0 + 5, 0, none⟩) N N := (hl4.tail.tail.tail.tail.tail.tail.head).trans (hx3 13)
          have e14 : x4 14 = .int .i64 (E.length : Nat) := (hl4.tail.tail.tail.tail.tail.tail.tail.head).trans (hx3 14)
          have e41 : x4 41 = .slice (some ⟨s0, 0, none⟩) K K := (hl4.tail.tail.tail.tail.tail.tail.tail.tail.head).trans (hx3 41)
          have e42 : x4 42 = .slice (some ⟨s0 + 1, 0, none⟩) N N := (hl4.tail.tail.tail.tail.tail.tail.tail.tail.tail.head).trans (hx3 42)
          have e47 : x4 47 = .slice (some ⟨cpb, 0, none⟩) K K := (hl4.tail.tail.tail.tail.tail.tail.tail.tail.tail.tail.head).trans (hx3 47)
          have e519 : x4 519 = .int .i64 (K : Nat) := (hl4.tail.tail.tail.tail.tail.tail.tail.tail.tail.tail.tail.head).trans (hx3 519)
          rw [frame_lit, e0, e8, e9, e10, e11, e12, e13, e14, e41, e42, e47, e519]
          clear e0 e8 e9 e10 e11 e12 e13 e14 e41 e42 e47 e519 hl4 hx3
          have hgY : w9.grownBy w11 none := hgX.trans hg11
          have hCk11 := HCk.out.grown hgY
          have hlm := hCk11.six.mp.len
          have hB11 : Below W.heap.size W w11 := below_grown HBel9.out hgY (fun g hg => by cases hg) HBel9.out.size
          go_wp2
          refine wp_frame rfl (fun x5 hx5 => ?_)
          refine loop13 x5 w11 _ r0 N (s0 + 1) cO ao D G2 kf kl rk ob cg E H S (hx5 0) (hx5 8) (hx5 9) (hx5 10) (hx5 11) (hx5 12) (hx5 13) (hx5 42) (hx5 538) (hx5 539) hCk11 hN (hO.below hB11 (Nat.le_refl _)) ?_
          intro x6 w12 hg12
          rw [frame_lit]
          go_wp2
          go_ret
          exact ⟨rfl, below_grown hB11 hg12 (fun g hg => by cases hg) hB11.size⟩
      · have i3 : decide ((4096 : Int) < t) = true := by simp; omega
        go_wp2
        go_ret
        exact ⟨rfl, hBA⟩
    · have i1 : decide ((4096 : Int) < (N : Int)) = false := by simp; omega
      have i2 : decide ((4096 : Int) < (K : Int)) = true := by simp; omega
      go_wp2
      go_ret
      exact ⟨rfl, Below.refl _ _⟩
  · have i1 : decide ((4096 : Int) < (N : Int)) = true := by simp; omega
    go_wp2
    go_ret
    exact ⟨rfl, Below.refl _ _⟩
end Go.Proofs.Ybulkeidm
