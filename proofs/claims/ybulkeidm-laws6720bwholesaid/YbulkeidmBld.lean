/-
  WHAT THE BUILD LEAVES: the objects one by one, their copies, the six rows.
-/
import Derived.Test.YbulkeidmCp
namespace Go.Proofs.Ybulkeidm
open Go.RowKit

/-- G, and the blocks L besides. -/
def exts (G : Nat → Option Gh) (L : List (Nat × Gh)) (b : Nat) : Option Gh := match L.lookup b with | some x => some x | none => G b

theorem lookup_mem {α : Type} : ∀ (L : List (Nat × α)) (b : Nat) (x : α), L.lookup b = some x → (b, x) ∈ L
  | [], b, x, h => by cases h
  | (a, y) :: L, b, x, h => by
    by_cases e : b = a
    · subst e; simp [List.lookup] at h; simp [h]
    · have e2 : (b == a) = false := by simpa using e
      simp only [List.lookup, e2] at h
      exact List.mem_cons_of_mem _ (lookup_mem L b x h)
theorem lookup_none {α : Type} : ∀ (L : List (Nat × α)) (b : Nat), (∀ p ∈ L, p.1 ≠ b) → L.lookup b = none
  | [], b, h => rfl
  | (a, y) :: L, b, h => by
    have e2 : (b == a) = false := by have := h (a, y) (by simp); simp only at this; simpa using fun e => this e.symm
    simp only [List.lookup, e2]
    exact lookup_none L b (fun p hp => h p (List.mem_cons_of_mem _ hp))
theorem lookup_nodup {α : Type} : ∀ (L : List (Nat × α)) (b : Nat) (x : α), (L.map Prod.fst).Nodup → (b, x) ∈ L → L.lookup b = some x
  | [], b, x, _, h => by cases h
  | (a, y) :: L, b, x, hn, h => by
    simp only [List.map_cons, List.nodup_cons] at hn
    by_cases e : b = a
    · subst e
      rcases List.mem_cons.1 h with h1 | h1
      · cases h1; simp [List.lookup]
      · exact absurd (List.mem_map.2 ⟨_, h1, rfl⟩) hn.1
    · have e2 : (b == a) = false := by simpa using e
      simp only [List.lookup, e2]
      rcases List.mem_cons.1 h with h1 | h1
      · cases h1; exact absurd rfl e
      · exact lookup_nodup L b x hn.2 h1

theorem exts_mem {G : Nat → Option Gh} {L : List (Nat × Gh)} (hn : (L.map Prod.fst).Nodup) {b : Nat} {x : Gh} (h : (b, x) ∈ L) : exts G L b = some x := by
  rw [exts, lookup_nodup L b x hn h]
theorem exts_out {G : Nat → Option Gh} {L : List (Nat × Gh)} {b : Nat} (h : ∀ p ∈ L, p.1 ≠ b) : exts G L b = G b := by
  rw [exts, lookup_none L b h]
theorem sub_exts {G : Nat → Option Gh} {L : List (Nat × Gh)} (h : ∀ p ∈ L, G p.1 = none) : Sub G (exts G L) := fun b x hx => by
  rw [exts_out]
  · exact hx
  · intro p hp e
    rw [← e, h p hp] at hx; cases hx
theorem exts_or {G : Nat → Option Gh} {L : List (Nat × Gh)} {b : Nat} {x : Gh} (h : exts G L b = some x) : (b, x) ∈ L ∨ G b = some x := by
  unfold exts at h
  split at h
  · rename_i y e; cases h; exact .inl (lookup_mem L b _ e)
  · exact .inr h
theorem Mem.exts {G : Nat → Option Gh} {L : List (Nat × Gh)} {w : World} (h : Mem G w) (hL : ∀ p ∈ L, Gh.at w p.1 p.2) : Mem (exts G L) w := fun b x hx => by
  rcases exts_or hx with h1 | h1
  · exact hL _ h1
  · exact h b x h1

/-- The blocks of one object's copies. -/
structure CG where
  br : Nat
  fo : Nat
  fs : Nat
  cf : Nat → Value
  cs : Nat → Value

abbrev Ud (D : Nat → ObIn) (i q : Nat) : Nat := updLen (D i) q

structure ObMade (G : Nat → Option Gh) (D : Nat → ObIn) (kf kl : Nat → Int) (rk : Nat → RK) (i : Nat) (o : OG) (c : CG) : Prop where
  ok : ObOK G (Ud D) kf kl rk i o
  n : o.n = (D i).n8.toNat % 8 + 1
  len : o.rds.length = (D i).rl
  num : ∀ t (h : t < o.rds.length), kf o.rds[t] = ((D i).rd t).file ∧ kl o.rds[t] = ((D i).rd t).line
  br : G c.br = some (.plain (.cells (o.rds.map ptr).toArray 47 (0, 0)))
  fo : ∃ arr : Array Value, G c.fo = some (.plain (.cells arr 27 (0, 0))) ∧ ∀ t, t < o.rds.length → arr[t]? = some (c.cf t)
  fs : ∃ arr : Array Value, G c.fs = some (.plain (.cells arr 55 (0, 0))) ∧ ∀ t, t < o.rds.length → arr[t]? = some (c.cs t)
  cp : ∀ t (h : t < o.rds.length), CpOK G (rk o.rds[t]) (c.cf t) (c.cs t)

theorem ObMade.mono {G G' : Nat → Option Gh} {D : Nat → ObIn} {kf kl kf' kl' : Nat → Int} {rk rk' : Nat → RK} {i : Nat} {o : OG} {c : CG} (h : ObMade G D kf kl rk i o c) (hs : Sub G G') (h1 : ∀ d ∈ o.rds, kf' d = kf d ∧ kl' d = kl d ∧ rk' d = rk d) : ObMade G' D kf' kl' rk' i o c := by
  refine ⟨h.ok.mono hs h1, h.n, h.len, fun t ht => ?_, hs _ _ h.br, ?_, ?_, fun t ht => ?_⟩
  · obtain ⟨e1, e2, _⟩ := h1 _ (List.getElem_mem ht)
    rw [e1, e2]; exact h.num t ht
  · obtain ⟨arr, a, b⟩ := h.fo; exact ⟨arr, hs _ _ a, b⟩
  · obtain ⟨arr, a, b⟩ := h.fs; exact ⟨arr, hs _ _ a, b⟩
  · rw [(h1 _ (List.getElem_mem ht)).2.2]; exact (h.cp t ht).mono hs

theorem ObOK.read_in {G : Nat → Option Gh} {U : Nat → Nat → Nat} {kf kl : Nat → Int} {rk : Nat → RK} {i : Nat} {o : OG} (h : ObOK G U kf kl rk i o) {d : Nat} (hd : d ∈ o.rds) : ∃ x, G d = some x := by
  obtain ⟨cs, t, e, ec, te, fv, sv, a1, _⟩ := (h.rd d hd).ex
  exact ⟨_, a1⟩

/-- One object, its blocks told one by one. -/
theorem obj_made {Gn : Nat → Option Gh} {D : Nat → ObIn} {kf kl : Nat → Int} {rk : Nat → RK} {i n B s : Nat} {rds : List Nat} {w : World} {pu g po poo pc br fo fs cr : Nat} {fu cf cs : Nat → Value}
    (hR : Reads Gn i n B kf kl rk (D i).rd rds w) (hBs : s ≤ B) (hl : rds.length = (D i).rl) (hn : n = (D i).n8.toNat % 8 + 1) (hn8 : n ≤ 8) (hrl : (D i).rl ≤ 1954687338268)
    (hnd : [pu, g, po, poo, pc, br, fo, fs].Nodup) (hlo : ∀ b ∈ [pu, g, po, poo, pc, br, fo, fs], s ≤ b ∧ Gn b = none)
    (hpu : RowF w pu 38 n fu) (hfu : ∀ k, k < n → ∃ a, fu k = .slice (some ⟨a, 0, none⟩) (updLen (D i) k) (updLen (D i) k))
    (hg : PRow w g rds) {cpo : Array Value} {tpo : TypeId} (hpo : w.heap[po]? = some (.cells cpo tpo (0, 0)))
    {coo : Array Value} {too : TypeId} (hoo : w.heap[poo]? = some (.cells coo too (0, 0))) (ho1 : coo[1]? = some (.slice (some ⟨pu, 0, none⟩) n n)) (ho3 : coo[3]? = some (.slice (some ⟨g, 0, none⟩) rds.length cr))
    {cco : Array Value} {tco : TypeId} (hco : w.heap[pc]? = some (.cells cco tco (0, 0))) (hc0 : cco[0]? = some (ptr poo))
    (hbr : w.heap[br]? = some (.cells (rds.map ptr).toArray 47 (0, 0))) (hfo : RowF w fo 27 rds.length cf) (hfs : RowF w fs 55 rds.length cs) (hcp : ∀ t (h : t < rds.length), CpOK Gn (rk rds[t]) (cf t) (cs t)) :
    ∃ G, Mem G w ∧ (∀ b x, G b = some x → s ≤ b) ∧ ObMade G D kf kl rk i ⟨po, pc, poo, pu, g, n, cr, rds⟩ ⟨br, fo, fs, cf, cs⟩ := by
  obtain ⟨au, u1, u2, u3⟩ := hpu
  obtain ⟨af, f1, f2, f3⟩ := hfo
  obtain ⟨ar, s1, s2, s3⟩ := hfs
  obtain ⟨L, hL⟩ : ∃ L : List (Nat × Gh), L = [(pu, .plain (.cells au 38 (0, 0))), (g, .reads i rds), (po, .plain (.cells cpo tpo (0, 0))), (poo, .plain (.cells coo too (0, 0))), (pc, .plain (.cells cco tco (0, 0))), (br, .plain (.cells (rds.map ptr).toArray 47 (0, 0))), (fo, .plain (.cells af 27 (0, 0))), (fs, .plain (.cells ar 55 (0, 0)))] := ⟨_, rfl⟩
  have hkeys : L.map Prod.fst = [pu, g, po, poo, pc, br, fo, fs] := by rw [hL]; rfl
  have hm : ∀ p ∈ L, Gh.at w p.1 p.2 := by
    intro p hp
    rw [hL] at hp
    simp only [List.mem_cons, List.not_mem_nil, or_false] at hp
    rcases hp with rfl | rfl | rfl | rfl | rfl | rfl | rfl | rfl
    · exact u1
    · exact hg
    · exact hpo
    · exact hoo
    · exact hco
    · exact hbr
    · exact f1
    · exact s1
  have hin : ∀ p ∈ L, p.1 ∈ [pu, g, po, poo, pc, br, fo, fs] := fun p hp => by rw [← hkeys]; exact List.mem_map.2 ⟨p, hp, rfl⟩
  have hsub : Sub Gn (exts Gn L) := sub_exts fun p hp => (hlo _ (hin p hp)).2
  have hat : ∀ b x, (b, x) ∈ L → exts Gn L b = some x := fun b x h => exts_mem (by rw [hkeys]; exact hnd) h
  have hrd : ∀ d ∈ rds, RdOK (exts Gn L) i n kf kl rk d := by
    intro d hd
    obtain ⟨t, ht, rfl⟩ := List.mem_iff_getElem.1 hd
    exact (hR.each t ht).ok.mono hsub rfl rfl rfl
  refine ⟨exts Gn L, hR.mem.exts hm, ?_, ?_⟩
  · intro b x hx
    rcases exts_or hx with h1 | h1
    · exact (hlo b (hin _ h1)).1
    · exact Nat.le_trans hBs (hR.lo b x h1)
  · have gpu : exts Gn L pu = some (.plain (.cells au 38 (0, 0))) := hat _ _ (by rw [hL]; simp)
    have gg : exts Gn L g = some (.reads i rds) := hat _ _ (by rw [hL]; simp)
    have gpo : exts Gn L po = some (.plain (.cells cpo tpo (0, 0))) := hat _ _ (by rw [hL]; simp)
    have goo : exts Gn L poo = some (.plain (.cells coo too (0, 0))) := hat _ _ (by rw [hL]; simp)
    have gco : exts Gn L pc = some (.plain (.cells cco tco (0, 0))) := hat _ _ (by rw [hL]; simp)
    have gbr : exts Gn L br = some (.plain (.cells (rds.map ptr).toArray 47 (0, 0))) := hat _ _ (by rw [hL]; simp)
    have gfo : exts Gn L fo = some (.plain (.cells af 27 (0, 0))) := hat _ _ (by rw [hL]; simp)
    have gfs : exts Gn L fs = some (.plain (.cells ar 55 (0, 0))) := hat _ _ (by rw [hL]; simp)
    refine ⟨⟨hn8, ⟨_, _, gpo⟩, ⟨_, _, gco, hc0⟩, ⟨_, _, goo, ho1, ho3⟩, ?_, gg, hrd, hR.nodup, ?_⟩, hn, hl, ?_, gbr, ⟨_, gfo, f3⟩, ⟨_, gfs, s3⟩, fun t ht => (hcp t ht).mono hsub⟩
    · refine ⟨au, 38, fun q => match fu q with | .slice a _ _ => a | _ => none, fun q => updLen (D i) q, gpu, fun q hq => ?_⟩
      obtain ⟨a, ha⟩ := hfu q hq
      rw [u3 q hq]; simp only [ha]
    · show rds.length ≤ 140737488355328
      omega
    · intro t ht
      exact ⟨(hR.each t ht).file, (hR.each t ht).line⟩

/-- The five rows and the map that the build fills. -/
structure Six (w : World) (h0 N : Nat) (f8 f9 f11 f12 f13 : Nat → Value) (E : List (Nat × Nat)) : Prop where
  r8 : RowF w h0 50 N f8
  r9 : RowF w (h0 + 1) 66 N f9
  mp : PMap w (h0 + 2) E
  r11 : RowF w (h0 + 3) 45 N f11
  r12 : RowF w (h0 + 4) 77 N f12
  r13 : RowF w (h0 + 5) 74 N f13

section
variable {w w' : World} {h0 N : Nat} {f8 f9 f11 f12 f13 : Nat → Value} {E : List (Nat × Nat)}
theorem Six.blocks (h : Six w h0 N f8 f9 f11 f12 f13 E) (hb : ∀ k, h0 ≤ k → k < h0 + 6 → w'.heap[k]? = w.heap[k]?) : Six w' h0 N f8 f9 f11 f12 f13 E :=
  ⟨h.r8.block (hb _ (by omega) (by omega)), h.r9.block (hb _ (by omega) (by omega)), h.mp.block (hb _ (by omega) (by omega)), h.r11.block (hb _ (by omega) (by omega)), h.r12.block (hb _ (by omega) (by omega)), h.r13.block (hb _ (by omega) (by omega))⟩
theorem Six.lt (h : Six w h0 N f8 f9 f11 f12 f13 E) : h0 + 6 ≤ w.heap.size := h.r13.rowB.lt
theorem Six.grown {row : Option Nat} (h : Six w h0 N f8 f9 f11 f12 f13 E) (hg : w.grownBy w' row) (hr : ∀ g, row = some g → h0 + 6 ≤ g) : Six w' h0 N f8 f9 f11 f12 f13 E :=
  h.blocks fun k _ hk => hg.block k (Nat.lt_of_lt_of_le hk h.lt) (fun e => by have := hr k e.symm; omega)
theorem set_block (w : World) (b k j : Nat) (v : Value) (h : j < w.heap.size) (hne : j ≠ b) : (w.setCell ⟨b, k, none⟩ v).heap[j]? = w.heap[j]? :=
  (grown_setCell w b k v).block j h (fun e => hne (Option.some.inj e))
theorem upd_set (f : Nat → Value) (k : Nat) (v : Value) (n : Nat) : upd f k v k = v ∧ ∀ j, j < n → j ≠ k → upd f k v j = f j := ⟨upd_self _ _ _, fun j _ hj => upd_ne f k j v hj⟩
theorem Six.set8 (h : Six w h0 N f8 f9 f11 f12 f13 E) (k : Nat) (v : Value) (hk : k < N) : Six (w.setCell ⟨h0, k, none⟩ v) h0 N (upd f8 k v) f9 f11 f12 f13 E :=
  have hb : ∀ j, j < h0 + 6 → j ≠ h0 → (w.setCell ⟨h0, k, none⟩ v).heap[j]? = w.heap[j]? := fun j hj hne => set_block w _ k j v (Nat.lt_of_lt_of_le hj h.lt) hne
  ⟨h.r8.set k v _ hk (upd_set _ _ _ N).1 (upd_set _ _ _ N).2, h.r9.block (hb _ (by omega) (by omega)), h.mp.block (hb _ (by omega) (by omega)), h.r11.block (hb _ (by omega) (by omega)), h.r12.block (hb _ (by omega) (by omega)), h.r13.block (hb _ (by omega) (by omega))⟩
theorem Six.set9 (h : Six w h0 N f8 f9 f11 f12 f13 E) (k : Nat) (v : Value) (hk : k < N) : Six (w.setCell ⟨h0 + 1, k, none⟩ v) h0 N f8 (upd f9 k v) f11 f12 f13 E :=
  have hb : ∀ j, j < h0 + 6 → j ≠ h0 + 1 → (w.setCell ⟨h0 + 1, k, none⟩ v).heap[j]? = w.heap[j]? := fun j hj hne => set_block w _ k j v (Nat.lt_of_lt_of_le hj h.lt) hne
  ⟨h.r8.block (hb _ (by omega) (by omega)), h.r9.set k v _ hk (upd_set _ _ _ N).1 (upd_set _ _ _ N).2, h.mp.block (hb _ (by omega) (by omega)), h.r11.block (hb _ (by omega) (by omega)), h.r12.block (hb _ (by omega) (by omega)), h.r13.block (hb _ (by omega) (by omega))⟩
theorem Six.set11 (h : Six w h0 N f8 f9 f11 f12 f13 E) (k : Nat) (v : Value) (hk : k < N) : Six (w.setCell ⟨h0 + 3, k, none⟩ v) h0 N f8 f9 (upd f11 k v) f12 f13 E :=
  have hb : ∀ j, j < h0 + 6 → j ≠ h0 + 3 → (w.setCell ⟨h0 + 3, k, none⟩ v).heap[j]? = w.heap[j]? := fun j hj hne => set_block w _ k j v (Nat.lt_of_lt_of_le hj h.lt) hne
  ⟨h.r8.block (hb _ (by omega) (by omega)), h.r9.block (hb _ (by omega) (by omega)), h.mp.block (hb _ (by omega) (by omega)), h.r11.set k v _ hk (upd_set _ _ _ N).1 (upd_set _ _ _ N).2, h.r12.block (hb _ (by omega) (by omega)), h.r13.block (hb _ (by omega) (by omega))⟩
theorem Six.set12 (h : Six w h0 N f8 f9 f11 f12 f13 E) (k : Nat) (v : Value) (hk : k < N) : Six (w.setCell ⟨h0 + 4, k, none⟩ v) h0 N f8 f9 f11 (upd f12 k v) f13 E :=
  have hb : ∀ j, j < h0 + 6 → j ≠ h0 + 4 → (w.setCell ⟨h0 + 4, k, none⟩ v).heap[j]? = w.heap[j]? := fun j hj hne => set_block w _ k j v (Nat.lt_of_lt_of_le hj h.lt) hne
  ⟨h.r8.block (hb _ (by omega) (by omega)), h.r9.block (hb _ (by omega) (by omega)), h.mp.block (hb _ (by omega) (by omega)), h.r11.block (hb _ (by omega) (by omega)), h.r12.set k v _ hk (upd_set _ _ _ N).1 (upd_set _ _ _ N).2, h.r13.block (hb _ (by omega) (by omega))⟩
theorem Six.set13 (h : Six w h0 N f8 f9 f11 f12 f13 E) (k : Nat) (v : Value) (hk : k < N) : Six (w.setCell ⟨h0 + 5, k, none⟩ v) h0 N f8 f9 f11 f12 (upd f13 k v) E :=
  have hb : ∀ j, j < h0 + 6 → j ≠ h0 + 5 → (w.setCell ⟨h0 + 5, k, none⟩ v).heap[j]? = w.heap[j]? := fun j hj hne => set_block w _ k j v (Nat.lt_of_lt_of_le hj h.lt) hne
  ⟨h.r8.block (hb _ (by omega) (by omega)), h.r9.block (hb _ (by omega) (by omega)), h.mp.block (hb _ (by omega) (by omega)), h.r11.block (hb _ (by omega) (by omega)), h.r12.block (hb _ (by omega) (by omega)), h.r13.set k v _ hk (upd_set _ _ _ N).1 (upd_set _ _ _ N).2⟩
theorem Six.map {E' : List (Nat × Nat)} (h : Six w h0 N f8 f9 f11 f12 f13 E) (hg : w.grownBy w' (some (h0 + 2))) (hm : PMap w' (h0 + 2) E') : Six w' h0 N f8 f9 f11 f12 f13 E' :=
  have hb : ∀ j, j < h0 + 6 → j ≠ h0 + 2 → w'.heap[j]? = w.heap[j]? := fun j hj hne => hg.block j (Nat.lt_of_lt_of_le hj h.lt) (fun e => hne (Option.some.inj e))
  ⟨h.r8.block (hb _ (by omega) (by omega)), h.r9.block (hb _ (by omega) (by omega)), hm, h.r11.block (hb _ (by omega) (by omega)), h.r12.block (hb _ (by omega) (by omega)), h.r13.block (hb _ (by omega) (by omega))⟩
end

/-- F up to i, z from there on. -/
def pick (i : Nat) (F : Nat → Value) (z : Value) (k : Nat) : Value := if k < i then F k else z
theorem pick_step {F F' : Nat → Value} {z v : Value} {i : Nat} (hv : F' i = v) (ho : ∀ k, k ≠ i → F' k = F k) : upd (pick i F z) i v = pick (i + 1) F' z := funext fun k => by
  unfold upd pick
  by_cases e : k = i
  · subst e; rw [if_pos rfl, if_pos (by omega), hv]
  · rw [if_neg e]
    by_cases hk : k < i
    · rw [if_pos hk, if_pos (by omega), ho k e]
    · rw [if_neg hk, if_neg (by omega)]

/-- f below s, g from s on. -/
def both {α : Type} (s : Nat) (f g : Nat → α) (b : Nat) : α := if b < s then f b else g b
theorem both_lt {α : Type} {s : Nat} {f g : Nat → α} {b : Nat} (h : b < s) : both s f g b = f b := by rw [both, if_pos h]
theorem both_ge {α : Type} {s : Nat} {f g : Nat → α} {b : Nat} (h : s ≤ b) : both s f g b = g b := by rw [both, if_neg (by omega)]

abbrev sl3 (b n : Nat) : Value := .slice (some ⟨b, 0, none⟩) n n
/-- The first i objects are built. -/
structure Built (D : Nat → ObIn) (h0 N i : Nat) (G : Nat → Option Gh) (kf kl : Nat → Int) (rk : Nat → RK) (ob : Nat → OG) (cg : Nat → CG) (E : List (Nat × Nat)) (w : World) : Prop where
  mem : Mem G w
  lo : ∀ b x, G b = some x → h0 + 6 ≤ b
  each : ∀ k, k < i → ObMade G D kf kl rk k (ob k) (cg k)
  keys : ∀ p ∈ E, ∃ cs t, G p.1 = some (.plain (.cells cs t (0, 0)))
  look : ∀ k, k < i → E.lookup (ob k).po = if (D k).present then some (ob k).pc else none
  six : Six w h0 N (pick i (fun k => ptr (ob k).po) (.pointer none)) (pick i (fun k => ptr (ob k).pc) (.pointer none)) (pick i (fun k => sl3 (cg k).br (ob k).rds.length) (.slice none 0 0)) (pick i (fun k => sl3 (cg k).fo (ob k).rds.length) (.slice none 0 0)) (pick i (fun k => sl3 (cg k).fs (ob k).rds.length) (.slice none 0 0)) E
  few : E.length ≤ i

theorem Built.snoc {D : Nat → ObIn} {h0 N i : Nat} {G : Nat → Option Gh} {kf kl : Nat → Int} {rk : Nat → RK} {ob : Nat → OG} {cg : Nat → CG} {E E' : List (Nat × Nat)} {w w6 : World} {G' : Nat → Option Gh} {kf' kl' : Nat → Int} {rk' : Nat → RK} {o : OG} {c : CG}
    (h : Built D h0 N i G kf kl rk ob cg E w) (hk : ∀ k, h0 + 6 ≤ k → k < w.heap.size → w6.heap[k]? = w.heap[k]?) (hM : Mem G' w6) (hlo : ∀ b x, G' b = some x → w.heap.size ≤ b) (hm : ObMade G' D kf' kl' rk' i o c) (hE : E' = if (D i).present then E ++ [(o.po, o.pc)] else E)
    (hsix : Six w6 h0 N (upd (pick i (fun k => ptr (ob k).po) (.pointer none)) i (ptr o.po)) (upd (pick i (fun k => ptr (ob k).pc) (.pointer none)) i (ptr o.pc)) (upd (pick i (fun k => sl3 (cg k).br (ob k).rds.length) (.slice none 0 0)) i (sl3 c.br o.rds.length)) (upd (pick i (fun k => sl3 (cg k).fo (ob k).rds.length) (.slice none 0 0)) i (sl3 c.fo o.rds.length)) (upd (pick i (fun k => sl3 (cg k).fs (ob k).rds.length) (.slice none 0 0)) i (sl3 c.fs o.rds.length)) E') :
    Built D h0 N (i + 1) (both w.heap.size G G') (both w.heap.size kf kf') (both w.heap.size kl kl') (both w.heap.size rk rk') (upd ob i o) (upd cg i c) E' w6 := by
  have hsG : Sub G (both w.heap.size G G') := fun b x hx => by rw [both_lt (h.mem.lt hx)]; exact hx
  have hsG' : Sub G' (both w.heap.size G G') := fun b x hx => by rw [both_ge (hlo b x hx)]; exact hx
  have hpo : w.heap.size ≤ o.po := by obtain ⟨cs, t, h1⟩ := hm.ok.obj; exact hlo _ _ h1
  have hEl : E.lookup o.po = none := lookup_none _ _ (fun p hp e => by
    obtain ⟨cs, t, h1⟩ := h.keys p hp
    have := h.mem.lt h1
    omega)
  have hoi : upd ob i o i = o := upd_self _ _ _
  have hci : upd cg i c i = c := upd_self _ _ _
  refine ⟨?_, ?_, ?_, ?_, ?_, ?_, ?_⟩
  · intro b x hx
    by_cases hb : b < w.heap.size
    · rw [both_lt hb] at hx
      exact Gh.at_block (h.mem b x hx) (hk b (h.lo b x hx) hb)
    · rw [both_ge (by omega)] at hx
      exact hM b x hx
  · intro b x hx
    by_cases hb : b < w.heap.size
    · rw [both_lt hb] at hx
      exact h.lo b x hx
    · have := h.six.lt; omega
  · intro k hk2
    by_cases e : k = i
    · subst e
      rw [hoi, hci]
      refine hm.mono hsG' (fun d hd => ?_)
      obtain ⟨x, hx⟩ := hm.ok.read_in hd
      have := hlo _ _ hx
      exact ⟨both_ge this, both_ge this, both_ge this⟩
    · rw [upd_ne _ _ _ _ e, upd_ne _ _ _ _ e]
      have hk3 := h.each k (by omega)
      refine hk3.mono hsG (fun d hd => ?_)
      obtain ⟨x, hx⟩ := hk3.ok.read_in hd
      have := h.mem.lt hx
      exact ⟨both_lt this, both_lt this, both_lt this⟩
  · intro p hp
    have h1 : p ∈ E ∨ p = (o.po, o.pc) := by
      rw [hE] at hp
      split at hp
      · rcases List.mem_append.1 hp with h1 | h1
        · exact .inl h1
        · exact .inr (by simpa using h1)
      · exact .inl hp
    rcases h1 with h1 | rfl
    · obtain ⟨cs, t, h2⟩ := h.keys p h1
      exact ⟨cs, t, hsG _ _ h2⟩
    · obtain ⟨cs, t, h2⟩ := hm.ok.obj
      exact ⟨cs, t, hsG' _ _ h2⟩
  · intro k hk2
    by_cases e : k = i
    · subst e
      rw [hoi, hE]
      split
      · rw [List.lookup_append, hEl]; simp [List.lookup]
      · exact hEl
    · rw [upd_ne _ _ _ _ e, ← h.look k (by omega), hE]
      split
      · have hne : (ob k).po ≠ o.po := by
          obtain ⟨cs, t, h2⟩ := (h.each k (by omega)).ok.obj
          have := h.mem.lt h2
          omega
        have e2 : ((ob k).po == o.po) = false := by simpa using hne
        rw [List.lookup_append]
        simp [List.lookup, e2]
      · rfl
  · rw [pick_step (F' := fun k => ptr (upd ob i o k).po) (by rw [hoi]) (fun k e => by simp only [upd_ne _ _ _ _ e]), pick_step (F' := fun k => ptr (upd ob i o k).pc) (by rw [hoi]) (fun k e => by simp only [upd_ne _ _ _ _ e]),
      pick_step (F' := fun k => sl3 (upd cg i c k).br (upd ob i o k).rds.length) (by rw [hoi, hci]) (fun k e => by simp only [upd_ne _ _ _ _ e]), pick_step (F' := fun k => sl3 (upd cg i c k).fo (upd ob i o k).rds.length) (by rw [hoi, hci]) (fun k e => by simp only [upd_ne _ _ _ _ e]), pick_step (F' := fun k => sl3 (upd cg i c k).fs (upd ob i o k).rds.length) (by rw [hoi, hci]) (fun k e => by simp only [upd_ne _ _ _ _ e])] at hsix
    exact hsix
  · have := h.few
    rw [hE]
    split
    · simp; omega
    · omega
end Go.Proofs.Ybulkeidm
