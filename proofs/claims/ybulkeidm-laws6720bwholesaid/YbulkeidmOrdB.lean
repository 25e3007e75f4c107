/-
  (*orderCollector).orderObjects, walked.
-/
import Derived.Test.YbulkeidmOrd
import Derived.Deep.CutBlock
import Derived.Deep.CutRange
namespace Go.Proofs.Ybulkeidm
open Go.RowKit

/-- Of the picks, the objects that the collector knows. -/
def hits (pres : Nat → Bool) (picks : List (Option Nat)) : List Nat := picks.filterMap fun p => p.bind fun i => if pres i then some i else none

/-- What the call is handed. -/
structure OrdIn (G : Nat → Option Gh) (U : Nat → Nat → Nat) (kf kl : Nat → Int) (rk : Nat → RK) (N : Nat) (ob : Nat → OG) (pres : Nat → Bool) (E : List (Nat × Nat)) (mb cb ab : Nat) (picks : List (Option Nat)) : Prop where
  ok : ∀ i, i < N → ObOK G U kf kl rk i (ob i)
  pk : ∀ i, some i ∈ picks → i < N
  map : G mb = some (.pmap E)
  keys : ∀ p ∈ E, ∃ cs t, G p.1 = some (.plain (.cells cs t (0, 0)))
  look : ∀ i, i < N → E.lookup (ob i).po = if pres i then some (ob i).pc else none
  col : ∃ (cs : Array Value) (t : TypeId), G cb = some (.plain (.cells cs t (0, 0))) ∧ cs[1]? = some (.map (some mb))
  arg : ∃ (cs : Array Value) (t : TypeId), G ab = some (.plain (.cells cs t (0, 0))) ∧ ∀ k (h : k < picks.length), cs[k]? = some (optPtr (picks[k].map fun i => (ob i).po))
  len : picks.length ≤ 4096

/-- What holds at the head of a round: the picks H are done. -/
structure OrdAt (G : Nat → Option Gh) (U : Nat → Nat → Nat) (kf kl : Nat → Int) (rk : Nat → RK) (N : Nat) (ob : Nat → OG) (H : List Nat) (w0 w : World) (gv : Value) (S : Nat → Bool) : Prop where
  mem : Mem (Sett U kf kl G S) w
  only : Only G w0 w
  cons : ∀ i, i < N → obS S rk (decide (i ∈ H)) (ob i)
  own : w.ownsRow w0.heap.size 67 1 gv H.length (H.map fun i => ptr (ob i).poo)
  nil : H = [] → gv = .slice none 0 0

theorem ownsRow_only {G : Nat → Option Gh} {w0 w w' : World} {e : TypeId} {size : Nat} {v : Value} {n : Nat} {xs : List Value} (h : w.ownsRow w0.heap.size e size v n xs) (ho : Only G w w') (hG : ∀ b x, G b = some x → b < w0.heap.size) : w'.ownsRow w0.heap.size e size v n xs := by
  refine ⟨h.1, ?_⟩
  rcases h.2 with h1 | ⟨g, cap, cur, hv, hb, hg, h2⟩
  · exact .inl h1
  · refine .inr ⟨g, cap, cur, hv, hb, ?_, h2⟩
    rw [ho.block g (lt_of_block hg) ?_]
    · exact hg
    · cases hx : G g with
      | none => rfl
      | some x => have := hG g x hx; omega

theorem Mem.heap {G : Nat → Option Gh} {w w' : World} (h : Mem G w) (e : w'.heap = w.heap) : Mem G w' := fun b x hx => Gh.at_block (h b x hx) (by rw [e])

theorem settle_flat {G : Nat → Option Gh} {U : Nat → Nat → Nat} {kf kl : Nat → Int} {rk : Nat → RK} {S : Nat → Bool} {w : World} {i d po pc poo pu pr n cr : Nat} {rds : List Nat} (hO : ObOK G U kf kl rk i ⟨po, pc, poo, pu, pr, n, cr, rds⟩) (hd : d ∈ rds) (hM : Mem (Sett U kf kl G S) w) (w' : World) (e : w'.heap = w.heap) :
    Calls Yba.prog 7 #[.pointer (some ⟨d, 2, none⟩), .slice (some ⟨pu, 0, none⟩) n n] w' fun e w2 => e = .returned (.tuple #[]) ∧ Only G w' w2 ∧ ∃ S', Mem (Sett U kf kl G S') w2 ∧ rdS S' rk true d ∧ Chg G i S S' := by
  have h2 : Mem (Sett U kf kl G S) w' := Mem.heap hM e
  have h3 := settle_mem hO hd h2
  simp only at h3
  exact h3

theorem sort_flat {G : Nat → Option Gh} {U : Nat → Nat → Nat} {kf kl : Nat → Int} {rk : Nat → RK} {S : Nat → Bool} {w : World} {i po pc poo pu pr n cr L : Nat} {rds : List Nat} (hO : ObOK G U kf kl rk i ⟨po, pc, poo, pu, pr, n, cr, rds⟩) (hL : L = rds.length) (hM : Mem (Sett U kf kl G S) w) :
    Calls Yba.prog 8 #[.slice (some ⟨pr, 0, none⟩) L cr, .func (.func 9) #[] #[]] w fun e w' => e = .returned (.tuple #[]) ∧ Only G w w' ∧ Mem (Sett U kf kl G (also S pr)) w' := by
  subst hL
  exact sort_mem hO hM

theorem info67 : (Yba.prog.info? 67).map (fun i => (i.zero, i.size, i.bytes)) = some (some (.pointer none), 1, 8) := by kernel_rfl
theorem append_oo {w : World} {ops : Array Oper} {rest : List Oper} {o : Oper} {a : Act} {Q : Exit → Act → World → Prop} (hgd : o.guard = none) (s x : Operand)
    (ho : o.op = .call { callee := .builtin .append, args := #[s, x], argTypes := #[79, 79] })
    (base : Nat) (v : Value) (n : Nat) (xs : List Value) (hs : a.eval s = v) (hown : w.ownsRow base 67 1 v n xs) (B p : Nat) (hx : a.eval x = .slice (some ⟨B, 0, none⟩) 1 1) (hB : w.heap[B]? = some (.cells #[ptr p] 67 (0, 0)))
    (hn : n ≤ 5000) (hbase : base ≤ w.heap.size)
    (h : ∀ g cap w', w'.ownsRow base 67 1 (.slice (some ⟨g, 0, none⟩) (n + 1) cap) (n + 1) (xs ++ [ptr p]) → w.grownBy w' v.ownBlock → (v.ownBlock = some g ∨ g = w.heap.size) → wpList Yba.prog ops Q rest (a.put o.dst (.slice (some ⟨g, 0, none⟩) (n + 1) cap)) w') :
    wpList Yba.prog ops Q (o :: rest) a w := by
  obtain ⟨i0, hi, hz0, hz1, hz2⟩ := info_parts info67
  refine wpList_append_lies w hgd s x 79 ho base 67 i0 (.pointer none) 1 8 Yba.underlying79 hi hz0 hz1 hz2 rfl (by decide) v n xs hs hown ⟨B, 0, none⟩ 1 1 [ptr p] hx rfl (World.news_of_block hB) (by simp [Value.oneCell']) (by decide) (by unfold maxLen; omega) (by omega) hbase _ rfl ?_
  intro g cap w' h1 h2 h3 _
  exact h g cap w' h1 h2 h3

theorem alloc_last (w : World) (o : Obj) : (w.alloc o).heap[w.heap.size]? = some o := by
  show (w.heap.push o)[w.heap.size]? = some o
  simp
theorem Only.then_grown {G : Nat → Option Gh} {w w1 w2 : World} {row : Option Nat} (h : Only G w w1) (hg : w1.grownBy w2 row) (hr : ∀ g, row = some g → w.heap.size ≤ g) : Only G w w2 :=
  ⟨hg.os.trans h.os, hg.tape.trans h.tape, hg.output.trans h.output, Nat.le_trans h.size hg.size, fun k hk hG => (hg.block k (Nat.lt_of_lt_of_le hk h.size) (fun e => by have := hr k e.symm; omega)).trans (h.block k hk hG)⟩

/-- One object more is done. -/
theorem cons_step {G : Nat → Option Gh} {U : Nat → Nat → Nat} {kf kl : Nat → Int} {rk : Nat → RK} {N : Nat} {ob : Nat → OG} {H : List Nat} {S S1 : Nat → Bool} {i : Nat} (hiN : i < N) (hok : ∀ i, i < N → ObOK G U kf kl rk i (ob i))
    (hc : ∀ i, i < N → obS S rk (decide (i ∈ H)) (ob i)) (hC : Chg G i S S1) (hD : ∀ d ∈ (ob i).rds, rdS S1 rk true d) : ∀ j, j < N → obS (also S1 (ob i).pr) rk (decide (j ∈ H ++ [i])) (ob j) := by
  have hrow : ∀ j, j < N → ∀ d ∈ (ob j).rds, ∀ s, rdS S1 rk s d → rdS (also S1 (ob i).pr) rk s d := by
    intro j hj d hd s h
    obtain ⟨cs, t, e, ec, te, fv, sv, _, _, _, _, _, _, _, hk⟩ := ((hok j hj).rd d hd).ex
    unfold rdS at h ⊢
    split
    · rename_i fb v e; rw [e] at h hk
      rw [also_ne]
      · exact h
      · intro e2; have h2 := (hok i hiN).rds; rw [← e2, hk.2.2.2] at h2; cases h2
    · trivial
    · rename_i fb v c e; rw [e] at h hk
      rw [also_ne]
      · exact h
      · intro e2; have h2 := (hok i hiN).rds; rw [← e2, hk.2.2.2] at h2; cases h2
  intro j hj
  by_cases e : j = i
  · subst e
    refine ⟨?_, ?_⟩
    · simp [also_self]
    · intro d hd
      have := hrow j hj d hd true (hD d hd)
      simpa using this
  · obtain ⟨h1, h2⟩ := hc j hj
    have e1 : decide (j ∈ H ++ [i]) = decide (j ∈ H) := by simp [e]
    rw [e1]
    refine ⟨?_, ?_⟩
    · rw [also_ne, hC.reads (hok j hj).rds]
      · exact h1
      · intro e2
        have h3 := (hok j hj).rds
        rw [e2, (hok i hiN).rds] at h3
        cases h3
        exact e rfl
    · intro d hd
      exact hrow j hj d hd _ (hC.other e ((hok j hj).rd d hd) (h2 d hd))

theorem own_lt {w : World} {base : Nat} {e : TypeId} {size : Nat} {v : Value} {n g : Nat} {xs : List Value} (h : w.ownsRow base e size v n xs) (hg : v.ownBlock = some g) : base ≤ g := by
  rcases h.2 with ⟨rfl, _⟩ | ⟨g', cap, cur, rfl, hb, _⟩
  · cases hg
  · cases hg; exact hb

set_option maxHeartbeats 2000000 in
set_option maxRecDepth 100000 in
theorem orderObjects_any (G : Nat → Option Gh) (U : Nat → Nat → Nat) (kf kl : Nat → Int) (rk : Nat → RK) (N : Nat) (ob : Nat → OG) (pres : Nat → Bool) (E : List (Nat × Nat)) (mb cb ab K ca : Nat) (picks : List (Option Nat)) (w : World)
    (hI : OrdIn G U kf kl rk N ob pres E mb cb ab picks) (hM : Mem (Sett U kf kl G fun _ => false) w) (hK : picks.length = K) :
    Calls Yba.prog 5 #[ptr cb, .slice (some ⟨ab, 0, none⟩) K ca] w fun e w' => ∃ rv S, e = .returned rv ∧ OrdAt G U kf kl rk N ob (hits pres picks) w w' rv S := by
  have HG : Hid (∀ b x, G b = some x → b < w.heap.size) := by
    intro b x hx
    have := hM b (stl U kf kl false x) (by simp [Sett, hx])
    exact Gh.at_lt this
  have hA0 : OrdAt G U kf kl rk N ob [] w w (.slice none 0 0) (fun _ => false) :=
    ⟨hM, Only.refl _ _, fun i _ => ⟨by simp, fun d _ => by unfold rdS; split <;> simp⟩, ⟨rfl, .inl ⟨rfl, rfl⟩⟩, fun _ => rfl⟩
  have HK : Hid (picks.length = K) := hK
  have hK2 : K ≤ 4096 := by rw [← hK]; exact hI.len
  clear hM hK
  go_enter Yba.func5, Yba.ntmps5
  go_wp2
  go_loopw [5, 13] (fun gv kv wi => ∃ (k : Nat) (S : Nat → Bool), kv = .int .i64 (k : Nat) ∧ k ≤ K ∧ OrdAt G U kf kl rk N ob (hits pres (picks.take k)) w wi gv S) (fun _ kv _ => K - (intOf kv).toNat)
  case atStart => exact ⟨0, _, rfl, by omega, by simpa [hits] using hA0⟩
  case round =>
    clear hA0
    obtain ⟨k, S, rfl, hk, hA⟩ := hrel
    by_cases hlt : k < K
    · obtain ⟨p, hp⟩ : ∃ p, p = picks[k]'(by have := HK.out; omega) := ⟨_, rfl⟩
      have htk : hits pres (picks.take (k + 1)) = hits pres (picks.take k) ++ hits pres [p] := by
        rw [List.take_succ_eq_append_getElem (by have := HK.out; omega), ← hp]
        simp [hits]
      have HTK : Hid (hits pres (picks.take (k + 1)) = hits pres (picks.take k) ++ hits pres [p]) := htk
      have hpm : p ∈ picks := by rw [hp]; exact List.getElem_mem _
      have cC : wr.cell? ⟨cb, 1, none⟩ = some (.map (some mb)) := by
        obtain ⟨cs, t, h1, h2⟩ := hI.col
        exact cellOf (hA.mem.plain h1) 1 _ h2
      have cA : wr.cell? ⟨ab, k, none⟩ = some (optPtr (p.map fun i => (ob i).po)) := by
        obtain ⟨cs, t, h1, h2⟩ := hI.arg
        have h3 := cellOf (hA.mem.plain h1) k _ (h2 k (by have := HK.out; omega))
        rw [← hp] at h3
        exact h3
      have hPM := hA.mem.pmap hI.map
      have hkeys : ∀ p ∈ E, Cells wr p.1 := fun p hp => by
        obtain ⟨cs, t, h1⟩ := hI.keys p hp
        exact ⟨cs, t, hA.mem.plain h1⟩
      have i1 : (k : Int) < (K : Int) := by omega
      clear hp htk
      cases hh : p.bind (fun i => if pres i then some i else none) with
      | none =>
        have hE0 : hits pres [p] = [] := by simp [hits, hh]
        have HL : ∃ av, wr.cell? ⟨ab, k, none⟩ = some (.pointer av) ∧ (Instr.lookup 32 (.map (some mb)) (.pointer av) false).run Yba.prog wr = .ok (.pointer none) wr := by
          cases p with
          | none => exact ⟨none, cA, hPM.lookup_nil⟩
          | some i =>
            refine ⟨_, cA, ?_⟩
            have hiN := hI.pk i hpm
            obtain ⟨cs, t, h1⟩ := (hI.ok i hiN).obj
            have h2 := hPM.lookup (ob i).po ⟨cs, t, hA.mem.plain h1⟩ hkeys
            rw [hI.look i hiN] at h2
            have h3 : pres i = false := by simpa using hh
            rw [h3] at h2
            exact h2
        obtain ⟨av, cA2, hL⟩ := HL
        clear cA hPM hkeys hh
        rw [hE0, List.append_nil] at HTK
        go_wp2
        go_roundw
        case rel => exact ⟨k + 1, S, by go_num, by omega, by rw [HTK.out]; exact hA⟩
        case measure => simp [intOf]; omega
      | some i =>
        have hpi : p = some i ∧ pres i = true := by
          cases p with
          | none => cases hh
          | some i' =>
            simp at hh
            obtain ⟨h1, rfl⟩ := hh
            exact ⟨rfl, h1⟩
        obtain ⟨rfl, hpr⟩ := hpi
        have hiN := hI.pk i hpm
        have hE0 : hits pres [some i] = [i] := by simp [hits, hpr]
        have hO := hI.ok i hiN
        have hL : (Instr.lookup 32 (.map (some mb)) (ptr (ob i).po) false).run Yba.prog wr = .ok (ptr (ob i).pc) wr := by
          obtain ⟨cs, t, h1⟩ := hO.obj
          have h2 := hPM.lookup (ob i).po ⟨cs, t, hA.mem.plain h1⟩ hkeys
          rw [hI.look i hiN, hpr] at h2
          exact h2
        have hcell : ∀ S' w', Mem (Sett U kf kl G S') w' → w'.cell? ⟨(ob i).pc, 0, none⟩ = some (ptr (ob i).poo) ∧ w'.cell? ⟨(ob i).poo, 1, none⟩ = some (.slice (some ⟨(ob i).pu, 0, none⟩) (ob i).n (ob i).n) ∧ w'.cell? ⟨(ob i).poo, 3, none⟩ = some (.slice (some ⟨(ob i).pr, 0, none⟩) (ob i).rds.length (ob i).cr) := by
          intro S' w' hm
          obtain ⟨cs, t, h1, h2⟩ := hO.col
          obtain ⟨cs', t', h3, h4, h5⟩ := hO.oo
          exact ⟨cellOf (hm.plain h1) 0 _ h2, cellOf (hm.plain h3) 1 _ h4, cellOf (hm.plain h3) 3 _ h5⟩
        have HCL : Hid (∀ S' w', Mem (Sett U kf kl G S') w' → w'.cell? ⟨(ob i).pc, 0, none⟩ = some (ptr (ob i).poo) ∧ w'.cell? ⟨(ob i).poo, 1, none⟩ = some (.slice (some ⟨(ob i).pu, 0, none⟩) (ob i).n (ob i).n) ∧ w'.cell? ⟨(ob i).poo, 3, none⟩ = some (.slice (some ⟨(ob i).pr, 0, none⟩) (ob i).rds.length (ob i).cr)) := hcell
        obtain ⟨c1, c2, c3⟩ := hcell S wr hA.mem
        rw [hE0] at HTK
        clear hPM hkeys hh hE0 hpm hcell
        obtain ⟨o, ho⟩ : ∃ o, o = ob i := ⟨_, rfl⟩
        have Ho : Hid (o = ob i) := ho
        rw [← ho] at hL c1 c2 c3 HCL hO
        have cA2 : wr.cell? ⟨ab, k, none⟩ = some (ptr o.po) := by rw [ho]; exact cA
        clear ho cA
        obtain ⟨po, pc, poo, pu, pr, n, cr, rds⟩ := o
        simp only at hL c1 c2 c3 HCL cA2
        obtain ⟨L, hLn⟩ : ∃ L, L = rds.length := ⟨_, rfl⟩
        rw [← hLn] at c3 HCL
        have HLn : Hid (L = rds.length) := hLn
        have hLbig : L ≤ 140737488355328 := by rw [hLn]; exact hO.big
        clear hLn
        obtain ⟨cur, hcur⟩ : ∃ cur, cur = (bif S pr then isort (ltd kf kl) rds else rds) := ⟨_, rfl⟩
        have hcp : cur.Perm rds := by
          rw [hcur]
          cases S pr
          · exact List.Perm.refl _
          · exact isort_perm _ _
        have Hcp : Hid (cur.Perm rds) := hcp
        have hcl : cur.length = L := by rw [hcp.length_eq, ← HLn.out]
        have Hcl : Hid (cur.length = L) := hcl
        have Hcur : Hid (cur = (bif S pr then isort (ltd kf kl) rds else rds)) := hcur
        clear hcur hcp hcl
        obtain ⟨wo, rfl⟩ : ∃ wo : World, wo = wr := ⟨_, rfl⟩
        go_wp2
        go_loopw [33] (fun jv wi => ∃ (j : Nat) (S' : Nat → Bool), jv = .int .i64 (j : Nat) ∧ j ≤ L ∧ Mem (Sett U kf kl G S') wi ∧ Chg G i S S' ∧ Only G wo wi ∧ ∀ d ∈ cur.take j, rdS S' rk true d) (fun jv _ => L - (intOf jv).toNat)
        case atStart => exact ⟨0, S, rfl, by omega, hA.mem, Chg.refl _ _ _, Only.refl _ _, fun d hd => by simp at hd⟩
        case round =>
          obtain ⟨j, S1, rfl, hj, hM1, hC1, hO1, hD1⟩ := hrel
          clear c1 c2 c3
          obtain ⟨c1, c2, c3⟩ := HCL.out S1 wr hM1
          by_cases hjl : j < L
          · obtain ⟨d, hd⟩ : ∃ d, d = cur[j]'(by have := Hcl.out; omega) := ⟨_, rfl⟩
            have hdm : d ∈ rds := by rw [hd]; exact Hcp.out.mem_iff.1 (List.getElem_mem _)
            have htk : cur.take (j + 1) = cur.take j ++ [d] := by rw [List.take_succ_eq_append_getElem (by have := Hcl.out; omega), ← hd]
            have HTKd : Hid (cur.take (j + 1) = cur.take j ++ [d]) := htk
            have cD : wr.cell? ⟨pr, j, none⟩ = some (ptr d) := by
              have h1 := hM1.reads hO.rds
              simp only at h1
              rw [hC1.reads hO.rds] at h1
              simp only at h1
              rw [← Hcur.out] at h1
              have h2 := h1.cell j (by have := Hcl.out; omega)
              rw [← hd] at h2
              exact h2
            have HC : ∀ w', w'.heap = wr.heap → Calls Yba.prog 7 #[.pointer (some ⟨d, 2, none⟩), .slice (some ⟨pu, 0, none⟩) n n] w' fun e w2 => e = .returned (.tuple #[]) ∧ Only G w' w2 ∧ ∃ S', Mem (Sett U kf kl G S') w2 ∧ rdS S' rk true d ∧ Chg G i S1 S' :=
              settle_flat hO hdm hM1
            clear hd htk
            have i2 : (j : Int) < (L : Int) := by omega
            go_wp2
            go_region_held3 (fun w' => w'.cell? ⟨pc, 0, none⟩ = some (ptr poo) ∧ w'.cell? ⟨poo, 1, none⟩ = some (.slice (some ⟨pu, 0, none⟩) n n)) (first | go_keep | (exact ⟨(HCL.out _ _ hm).1, (HCL.out _ _ hm).2.1⟩))
              ((go_at_call 7; refine (HC _ ?_).mono ?_; rfl; rintro e w' ⟨rfl, ho, S2, hm, hr, hc⟩))
            clear HC cD c1 c2 c3
            go_wp2
            go_roundw
            case rel =>
              refine ⟨j + 1, S2, by go_num, by omega, hm, hC1.trans hc, (hO1.trans (w3 := World.drew _) ⟨rfl, rfl, rfl, Nat.le_refl _, fun _ _ _ => rfl⟩).trans ho, ?_⟩
              intro x hx
              rw [HTKd.out, List.mem_append] at hx
              rcases hx with hx | hx
              · exact hc.rdS (hD1 x hx)
              · rw [List.mem_singleton] at hx; subst hx; exact hr
            case measure => simp [intOf]; omega
          · obtain rfl : j = L := by omega
            have hd : decide ((j : Int) < (j : Int)) = false := by simp
            have HS := sort_flat hO HLn.out hM1
            go_wp2_with fail
            refine HS.mono ?_
            clear HS
            rintro e w1 ⟨rfl, ho, hm⟩
            clear c1 c2 c3
            obtain ⟨c1, c2, c3⟩ := HCL.out _ w1 hm
            have hown := ownsRow_only hA.own (hO1.trans ho) HG.out
            have hHL : (hits pres (picks.take k)).length ≤ 5000 := by
              have h1 : (hits pres (picks.take k)).length ≤ (picks.take k).length := List.length_filterMap_le _ _
              rw [List.length_take] at h1
              have := HK.out
              omega
            obtain ⟨m, hmn⟩ : ∃ m, m = (hits pres (picks.take k)).length := ⟨_, rfl⟩
            have Hmn : Hid (m = (hits pres (picks.take k)).length) := hmn
            rw [← hmn] at hown hHL
            clear hmn
            have hsz : w.heap.size ≤ w1.heap.size := Nat.le_trans hA.only.size (hO1.trans ho).size
            have hown' : (w1.alloc (Obj.cells #[ptr poo] 67)).ownsRow w.heap.size 67 1 u5 m ((hits pres (picks.take k)).map fun i => ptr (ob i).poo) := hown.alloc _
            go_wp2_with (at_builtin; refine append_oo rfl (.tmp 57) (.tmp 62) rfl w.heap.size u5 m _ rfl hown' w1.heap.size poo rfl (alloc_last _ _) hHL (by simp; omega) ?_; intro g cap w2 hown2 hgrow hat)
            have hGn : ∀ g, u5.ownBlock = some g → w.heap.size ≤ g := fun g hg => own_lt hown hg
            have hon : Only G w w2 := ((hA.only.trans (hO1.trans ho)).then_grown (World.grownBy_alloc w1 _ none) (fun g hg => by cases hg)).then_grown hgrow hGn
            have hmm : Mem (Sett U kf kl G (also S1 pr)) w2 := by
              refine (hm.grown (World.grownBy_alloc w1 (Obj.cells #[ptr poo] 67) none) (fun g hg => by cases hg)).grown hgrow ?_
              intro g hg
              cases hx : G g with
              | none => simp [Sett, hx]
              | some x => have := HG.out g x hx; have := hGn g hg; omega
            have hcc : ∀ j, j < N → obS (also S1 pr) rk (decide (j ∈ hits pres (picks.take (k + 1)))) (ob j) := by
              rw [HTK.out]
              have h1 := cons_step hiN hI.ok hA.cons hC1 (by
                rw [← Ho.out]
                intro d hd
                refine hD1 d ?_
                rw [List.take_of_length_le (by have := Hcl.out; omega)]
                exact Hcp.out.mem_iff.2 hd)
              rw [← Ho.out] at h1
              exact h1
            have hoo : w2.ownsRow w.heap.size 67 1 (.slice (some ⟨g, 0, none⟩) (m + 1) cap) (hits pres (picks.take (k + 1))).length ((hits pres (picks.take (k + 1))).map fun i => ptr (ob i).poo) := by
              rw [HTK.out, List.length_append, List.map_append, ← Hmn.out]
              have h1 : (List.map (fun i => ptr (ob i).poo) [i]) = [ptr poo] := by simp [← Ho.out]
              rw [h1]
              exact hown2
            clear hown hown' hown2 hgrow hat hm hO1 ho hC1 hD1 hM1 hsz
            go_roundw
            case rel => exact ⟨k + 1, _, by go_num, by omega, hmm, hon, hcc, hoo, fun e => by rw [HTK.out] at e; simp at e⟩
            case measure => simp [intOf]; omega
    · obtain rfl : k = K := by omega
      have hd : decide ((k : Int) < (k : Int)) = false := by simp
      have hA2 : OrdAt G U kf kl rk N ob (hits pres picks) w wr u5 S := by have := hA; rw [List.take_of_length_le (by have := HK.out; omega)] at this; exact this
      go_wp2
      go_ret
      exact ⟨_, S, rfl, hA2⟩
end Go.Proofs.Ybulkeidm
