/-
  copy AND make AT ELEMENTS OF TWO CELLS.
-/
import Derived.Test.YbulkeidmL6
import Derived.Laws.CopyRow
namespace Go.Proofs.Ybulkeidm
open Go.RowKit

theorem run_copy_pairs (w : World) (ty : TypeId) (g dLen dCap : Nat) (a : Addr) (sLen sCap : Nat) (cur : Array Value) (t : TypeId) (cs : List Value)
    (hg : w.heap[g]? = some (.cells cur t (0, 0))) (hn : cs.length = Nat.min sLen dLen * 2)
    (hsrc : ∀ j v, cs[j]? = some v → w.cell? (a.add j) = some v) (hfit : cs.length ≤ cur.size) (h1 : ∀ v ∈ cs, v.oneCell' = true) :
    (Builtin.copy_ #[55, 55] ty #[.slice (some ⟨g, 0, none⟩) dLen dCap, .slice (some a) sLen sCap]).run Yba.prog w =
      .ok (goInt (Nat.min sLen dLen)) (w.setRow g (cs ++ cur.toList.drop cs.length).toArray) := by
  have hl := run_loadCells_list (P := Yba.prog) w a cs hsrc
  have hst := run_storeCells_at Yba.prog g 0 t cs 0 cur w hg (by simpa using hfit) h1
  obtain ⟨i0, hi, hz0, hz1, hz2⟩ := info_parts info62
  simp [Builtin.copy_, run_underlying Yba.underlying55, Builtin.lenOf, Builtin.firstCells, sizeOf, typeInfo, hi, hz1, ← hn, hl, hst]

theorem run_make_pairs (n : Nat) (h : 16 * n ≤ 281474976710656) (w : World) :
    (Instr.makeSlice 55 (.int .i64 (n : Int)) (.int .i64 (n : Int))).run Yba.prog w = .ok (.slice (some ⟨w.heap.size, 0, none⟩) n n) (w.alloc (.cells (madeCells #[.int .i64 0, .int .i64 0] (n * 2)) 62)) := by
  obtain ⟨i0, hi, hz0, hz1, hz2⟩ := info_parts info62
  have hb' : (i0.bytes : Int) * (n : Int) ≤ 281474976710656 := by rw [hz2]; omega
  have hr := run_make (P := Yba.prog) w 55 62 i0 _ Yba.underlying55 hi hz0 .i64 .i64 n n (by omega) (Int.le_refl _) hb' (by omega)
  simp only [Int.toNat_natCast, hz1] at hr
  exact hr
end Go.Proofs.Ybulkeidm
