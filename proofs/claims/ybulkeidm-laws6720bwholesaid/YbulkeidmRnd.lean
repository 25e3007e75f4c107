/-
  ONE ROUND OF THE BUILD, from the blocks that it laid: the object stands.
-/
import Derived.Test.YbulkeidmL9
namespace Go.Proofs.Ybulkeidm
open Go.RowKit

theorem round_done {D : Nat → ObIn} {h0 N i : Nat} {G : Nat → Option Gh} {kf kl : Nat → Int} {rk : Nat → RK} {ob : Nat → OG} {cg : Nat → CG} {E E' : List (Nat × Nat)} {w' w4 wi w9 : World} {G1 G2 : Nat → Option Gh} {kf1 kl1 : Nat → Int} {rk1 : Nat → RK} {rds : List Nat} {n B1 pu g cr po : Nat} {fu f sv : Nat → Value} {cpo coo cco : Array Value} {tpo too tco : TypeId}
    (hB : Built D h0 N i G kf kl rk ob cg E w') (hi : i < N) (hg4 : w'.grownBy w4 none) (hRd : Reads G1 i n B1 kf1 kl1 rk1 (D i).rd rds w4) (hsB : w'.heap.size ≤ B1) (hlen : rds.length = (D i).rl) (hn : n = (D i).n8.toNat % 8 + 1) (hn8 : n ≤ 8) (hrl : (D i).rl ≤ 1954687338268)
    (hpu : RowF w4 pu 38 n fu) (hfu : ∀ k, k < n → ∃ a, fu k = .slice (some ⟨a, 0, none⟩) (updLen (D i) k) (updLen (D i) k)) (hpu1 : w'.heap.size ≤ pu) (hpu2 : pu < B1) (hg : PRow w4 g rds) (hgs : w'.heap.size ≤ g) (hGg : G1 g = none) (hug : pu ≠ g)
    (hpo : po = w4.heap.size) (hB1 : B1 ≤ po) (hkeep : ∀ k, h0 + 6 ≤ k → k < po → wi.heap[k]? = w4.heap[k]?) (hsz : wi.heap.size = po + 6)
    (b0 : wi.heap[po]? = some (.cells cpo tpo (0, 0))) (b1 : wi.heap[po + 1]? = some (.cells coo too (0, 0))) (ho1 : coo[1]? = some (.slice (some ⟨pu, 0, none⟩) n n)) (ho3 : coo[3]? = some (.slice (some ⟨g, 0, none⟩) rds.length cr))
    (b2 : wi.heap[po + 2]? = some (.cells cco tco (0, 0))) (hc0 : cco[0]? = some (ptr (po + 1))) (b3 : wi.heap[po + 3]? = some (.cells (rds.map ptr).toArray 47 (0, 0)))
    (hA : CpAt wi w9 G1 G2 rk1 rds (po + 4) (po + 5) rds.length rds.length f sv)
    (hE : E' = if (D i).present then E ++ [(po, po + 2)] else E)
    (hsix : Six wi h0 N (upd (pick i (fun k => ptr (ob k).po) (.pointer none)) i (ptr po)) (upd (pick i (fun k => ptr (ob k).pc) (.pointer none)) i (ptr (po + 2))) (upd (pick i (fun k => sl3 (cg k).br (ob k).rds.length) (.slice none 0 0)) i (sl3 (po + 3) rds.length)) (pick i (fun k => sl3 (cg k).fo (ob k).rds.length) (.slice none 0 0)) (pick i (fun k => sl3 (cg k).fs (ob k).rds.length) (.slice none 0 0)) E') :
    ∃ G' kf' kl' rk' ob' cg', Built D h0 N (i + 1) G' kf' kl' rk' ob' cg' E' ((w9.setCell ⟨h0 + 4, i, none⟩ (sl3 (po + 4) rds.length)).setCell ⟨h0 + 5, i, none⟩ (sl3 (po + 5) rds.length)) := by
  have hh := hB.six.lt
  have h9s := hA.only.size
  have h4s := hg4.size
  obtain ⟨W, hW0⟩ : ∃ W, W = (w9.setCell ⟨h0 + 4, i, none⟩ (sl3 (po + 4) rds.length)).setCell ⟨h0 + 5, i, none⟩ (sl3 (po + 5) rds.length) := ⟨_, rfl⟩
  have hW : ∀ k, h0 + 6 ≤ k → k < w9.heap.size → W.heap[k]? = w9.heap[k]? := by
    intro k h1 h2
    rw [hW0, set_block _ _ _ k _ (by simp [World.setCell]; exact h2) (by omega), set_block _ _ _ k _ h2 (by omega)]
  have h9 : ∀ k, k < po + 6 → k ≠ po + 4 → k ≠ po + 5 → w9.heap[k]? = wi.heap[k]? := fun k h1 h2 h3 => hA.only.block k (by omega) (mark2_none h2 h3)
  have hS9 : Six w9 h0 N _ _ _ _ _ E' := hsix.blocks fun k _ hk => h9 k (by omega) (by omega) (by omega)
  have hS := (hS9.set12 i (sl3 (po + 4) rds.length) hi).set13 i (sl3 (po + 5) rds.length) hi
  rw [← hW0] at hS ⊢
  have hlo2 : ∀ b x, G2 b = some x → B1 ≤ b := by
    intro b x hx
    rcases hA.new b x hx with h1 | h1
    · exact hRd.lo b x h1
    · omega
  have hm2 : Mem G2 W := fun b x hx => Gh.at_block (hA.mem b x hx) (hW b (by have := hlo2 b x hx; omega) (hA.mem.lt hx))
  have hR2 : Reads G2 i n B1 kf1 kl1 rk1 (D i).rd rds W := hRd.wider hA.sub hm2 hlo2
  have hold : ∀ k, h0 + 6 ≤ k → k < po → W.heap[k]? = w4.heap[k]? := fun k h1 h2 => by
    rw [hW k h1 (by omega), h9 k (by omega) (by omega) (by omega), hkeep k h1 h2]
  have hnew : ∀ k, po ≤ k → k < po + 4 → W.heap[k]? = wi.heap[k]? := fun k h1 h2 => by
    rw [hW k (by omega) (by omega), h9 k (by omega) (by omega) (by omega)]
  have hglt := hg.lt
  have hpult := hpu.rowB.lt
  have hfr : ∀ k, po ≤ k → G1 k = none := fun k hk => hRd.mem.fresh (by omega)
  have hpuG : G1 pu = none := by
    cases hx : G1 pu with
    | none => rfl
    | some x => have := hRd.lo pu x hx; omega
  have hout : ∀ k, k < po + 6 → G1 k = none → G2 k = none := fun k h1 h2 => hA.out k (by omega) h2
  obtain ⟨G', hM', hlo', hm'⟩ := obj_made (D := D) (s := w'.heap.size) (pu := pu) (g := g) (po := po) (poo := po + 1) (pc := po + 2) (br := po + 3) (fo := po + 4) (fs := po + 5) hR2 hsB hlen hn hn8 hrl
    (by
      simp only [List.nodup_cons, List.mem_cons, List.not_mem_nil, or_false, not_or, List.nodup_nil, and_true, not_false_eq_true]
      omega)
    (by
      intro b hb
      simp only [List.mem_cons, List.not_mem_nil, or_false] at hb
      rcases hb with rfl | rfl | rfl | rfl | rfl | rfl | rfl | rfl
      · exact ⟨hpu1, hout _ (by omega) hpuG⟩
      · exact ⟨hgs, hout _ (by omega) hGg⟩
      · exact ⟨by omega, hout _ (by omega) (hfr _ (by omega))⟩
      · exact ⟨by omega, hout _ (by omega) (hfr _ (by omega))⟩
      · exact ⟨by omega, hout _ (by omega) (hfr _ (by omega))⟩
      · exact ⟨by omega, hout _ (by omega) (hfr _ (by omega))⟩
      · exact ⟨by omega, hout _ (by omega) (hfr _ (by omega))⟩
      · exact ⟨by omega, hout _ (by omega) (hfr _ (by omega))⟩)
    (hpu.block (hold pu (by omega) (by omega))) hfu (hg.block (hold g (by omega) (by omega))) ((hnew po (by omega) (by omega)).trans b0) ((hnew (po + 1) (by omega) (by omega)).trans b1) ho1 ho3 ((hnew (po + 2) (by omega) (by omega)).trans b2) hc0 ((hnew (po + 3) (by omega) (by omega)).trans b3)
    (hA.rf.block (hW _ (by omega) (by omega))) (hA.rs.block (hW _ (by omega) (by omega))) (fun t ht => hA.cp t ht ht)
  exact ⟨_, _, _, _, _, _, hB.snoc (fun k h1 h2 => by rw [hold k h1 (by omega), hg4.block k h2 (by simp)]) hM' hlo' hm' hE hS⟩
end Go.Proofs.Ybulkeidm
