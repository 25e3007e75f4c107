/-
  (*seers).settle at a dense read: each place that is told nothing of becomes the number of the replica's updates.
-/
import Derived.Test.YbulkeidmMem
import Derived.Test.YbulkeidmPairN
namespace Go.Proofs.Ybulkeidm
open Go.RowKit

/-- A dense row, settled. -/
def stOne (U : Nat → Nat) (q : Nat) (x : Int) : Int := if x < 0 then (U q : Nat) else x
def stFo (U : Nat → Nat) (v : List Int) : List Int := v.mapIdx (stOne U)
/-- .. its first k places settled. -/
def stFoK (U : Nat → Nat) (k : Nat) (v : List Int) : List Int := v.mapIdx fun q x => if q < k then stOne U q x else x

theorem stFoK_zero (U : Nat → Nat) (v : List Int) : stFoK U 0 v = v := by
  apply List.ext_getElem (by simp [stFoK])
  intro q h1 h2
  simp [stFoK]
theorem stFoK_all (U : Nat → Nat) (v : List Int) (k : Nat) (h : v.length ≤ k) : stFoK U k v = stFo U v := by
  unfold stFoK stFo
  apply List.ext_getElem (by simp)
  intro q h1 h2
  simp at h1
  simp [show q < k from by omega]
theorem stFoK_len (U : Nat → Nat) (v : List Int) (k : Nat) : (stFoK U k v).length = v.length := by simp [stFoK]
theorem stFoK_at (U : Nat → Nat) (v : List Int) (k : Nat) (h : k < v.length) : (stFoK U k v)[k]'(by rw [stFoK_len]; exact h) = v[k] := by simp [stFoK]
theorem stFoK_set (U : Nat → Nat) (v : List Int) (k : Nat) (h : k < v.length) : (stFoK U k v).set k (stOne U k v[k]) = stFoK U (k + 1) v := by
  apply List.ext_getElem (by simp [stFoK])
  intro q h1 h2
  simp [stFoK] at h1
  rw [List.getElem_set]
  by_cases e : k = q
  · subst e; simp [stFoK]
  · simp only [if_neg e]
    simp only [stFoK, List.getElem_mapIdx]
    by_cases h3 : q < k
    · simp [h3, show q < k + 1 from by omega]
    · simp [h3, show ¬ q < k + 1 from by omega]
theorem stFoK_keep (U : Nat → Nat) (v : List Int) (k : Nat) (h : k < v.length) (hx : ¬ v[k] < 0) : stFoK U k v = stFoK U (k + 1) v := by
  rw [← stFoK_set U v k h, stOne, if_neg hx]
  apply List.ext_getElem (by simp)
  intro q h1 h2
  rw [List.getElem_set]
  by_cases e : k = q
  · subst e; simp [stFoK_at U v k h]
  · simp [e]
theorem stFo_idem (U : Nat → Nat) (v : List Int) : stFo U (stFo U v) = stFo U v := by
  apply List.ext_getElem (by simp [stFo])
  intro q h1 h2
  simp only [stFo, List.getElem_mapIdx, stOne]
  split
  · rfl
  · rfl

/-- A row of ints that fills its block. -/
def IRow (w : World) (g : Nat) (v : List Int) : Prop := w.heap[g]? = some (.cells (v.map (Value.int .i64)).toArray 3 (0, 0))
theorem IRow.cell {w : World} {g : Nat} {v : List Int} (h : IRow w g v) (j : Nat) (hj : j < v.length) : w.cell? ⟨g, j, none⟩ = some (.int .i64 v[j]) := by
  have := World.news_of_block h j (.int .i64 v[j]) (by simp [hj])
  rw [Go.WideShapes.add_plain, Nat.zero_add] at this
  exact this
theorem IRow.frozen {w : World} {g : Nat} {v : List Int} (h : IRow w g v) (j : Nat) : w.frozen? ⟨g, j, none⟩ = false := by
  simp [IRow] at h
  simp [World.frozen?, h]
theorem IRow.set {w : World} {g : Nat} {v : List Int} (h : IRow w g v) (j : Nat) (x : Int) : IRow (w.setCell ⟨g, j, none⟩ (.int .i64 x)) g (v.set j x) := by
  rw [IRow, heap_setCell_same w g j _ 3 _ h]
  congr 2
  simp [List.map_set]
theorem IRow.block {w w' : World} {g : Nat} {v : List Int} (h : IRow w g v) (e : w'.heap[g]? = w.heap[g]?) : IRow w' g v := e.trans h

set_option maxHeartbeats 1000000 in
set_option maxRecDepth 100000 in
theorem settle_dense (d pu fb n cu : Nat) (U : Nat → Nat) (A : Nat → Option Addr) (C : Nat → Nat) (v : List Int) (w : World) (hn : v.length = n) (hbig : n ≤ 8) (n1 : d ≠ fb) (n2 : pu ≠ fb)
    (hF : IRow w fb v) (c2 : w.cell? ⟨d, 2, none⟩ = some (.slice (some ⟨fb, 0, none⟩) n n)) (c3 : w.cell? ⟨d, 3, none⟩ = some (.slice none 0 0))
    (hU : ∀ q, q < n → w.cell? ⟨pu, q, none⟩ = some (.slice (A q) (U q) (C q))) :
    Calls Yba.prog 7 #[.pointer (some ⟨d, 2, none⟩), .slice (some ⟨pu, 0, none⟩) n cu] w fun e w' => e = .returned (.tuple #[]) ∧ w.grownBy w' (some fb) ∧ IRow w' fb (stFo U v) := by
  have Hn : Hid (v.length = n) := hn
  clear hn
  go_enter Yba.func7, Yba.ntmps7
  go_wp2
  go_loopw [11] (fun iv wi => ∃ k : Nat, iv = .int .i64 (k : Nat) ∧ k ≤ n ∧ IRow wi fb (stFoK U k v) ∧ w.grownBy wi (some fb)) (fun iv _ => n - (intOf iv).toNat)
  case atStart => exact ⟨0, rfl, by omega, by rw [stFoK_zero]; exact hF, ⟨rfl, rfl, rfl, Nat.le_refl _, fun _ _ _ => rfl⟩⟩
  case round =>
    clear hF
    obtain ⟨k, rfl, hk, hF, hg⟩ := hrel
    have d2 : wr.cell? ⟨d, 2, none⟩ = some (.slice (some ⟨fb, 0, none⟩) n n) := hg.cell c2 (fun x => n1 (Option.some.inj x))
    have d3 : wr.cell? ⟨d, 3, none⟩ = some (.slice none 0 0) := hg.cell c3 (fun x => n1 (Option.some.inj x))
    by_cases hlt : k < n
    · have dU : wr.cell? ⟨pu, k, none⟩ = some (.slice (A k) (U k) (C k)) := hg.cell (hU k hlt) (fun x => n2 (Option.some.inj x))
      have hkv : k < v.length := by have := Hn.out; omega
      obtain ⟨x, hx⟩ : ∃ x, x = v[k] := ⟨_, rfl⟩
      have cF : wr.cell? ⟨fb, k, none⟩ = some (.int .i64 x) := by have := hF.cell k (by rw [stFoK_len]; exact hkv); rw [stFoK_at U v k hkv, ← hx] at this; exact this
      have fF : wr.frozen? ⟨fb, k, none⟩ = false := hF.frozen k
      have i1 : (k : Int) < (n : Int) := by omega
      by_cases hx0 : x < 0
      · have HK : Hid (∀ w', IRow w' fb (stFoK U k v) → IRow (w'.setCell ⟨fb, k, none⟩ (.int .i64 (U k : Nat))) fb (stFoK U (k + 1) v)) := by
          intro w' h'
          have h1 := h'.set k (U k : Nat)
          have h2 := stFoK_set U v k hkv
          rw [stOne, ← hx, if_pos hx0] at h2
          rw [h2] at h1
          exact h1
        clear hx
        go_wp2
        go_region
        go_wp2
        go_roundw
        case rel => exact ⟨k + 1, by go_num, by omega, HK.out _ (hF.block rfl), hg.trans ((grown_drew _ _).trans (grown_setCell _ _ _ _))⟩
        case measure => simp [intOf]; omega
      · have hd : decide (x < 0) = false := by simpa using hx0
        have hF2 : IRow wr fb (stFoK U (k + 1) v) := by rw [← stFoK_keep U v k hkv (by rw [← hx]; exact hx0)]; exact hF
        clear hx hF
        go_wp2
        go_roundw
        case rel => exact ⟨k + 1, by go_num, by omega, hF2, hg⟩
        case measure => simp [intOf]; omega
    · obtain rfl : k = n := by omega
      have hd : decide ((k : Int) < (k : Int)) = false := by simp
      have HS := sortP_none none 0 (.func (.func 12) #[] #[]) wr
      rw [stFoK_all U v k (by have := Hn.out; omega)] at hF
      go_wp2_with fail
      refine HS.mono ?_
      clear HS
      rintro e w1 ⟨rfl, rfl⟩
      go_wp2
      go_end0
      exact ⟨rfl, hg, hF⟩
end Go.Proofs.Ybulkeidm
