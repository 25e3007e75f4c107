/-
  bits.Len of a small number: that it answers is all that the sort asks.
-/
import Derived.Test.YbulkeidmLeaf
namespace Go.Proofs.Ybulkeidm
open Go.RowKit

set_option maxHeartbeats 1000000 in
set_option maxRecDepth 100000 in
theorem len64_any (x : Nat) (w : World) (h : x ≤ 12) : Calls Yba.prog 30 #[.int .u64 (x : Nat)] w fun e w' => (∃ r, e = .returned (.int .i64 r)) ∧ w = w' := by
  have h' : x = 0 ∨ x = 1 ∨ x = 2 ∨ x = 3 ∨ x = 4 ∨ x = 5 ∨ x = 6 ∨ x = 7 ∨ x = 8 ∨ x = 9 ∨ x = 10 ∨ x = 11 ∨ x = 12 := by omega
  clear h
  rcases h' with rfl | rfl | rfl | rfl | rfl | rfl | rfl | rfl | rfl | rfl | rfl | rfl | rfl
  all_goals
    go_enter Yba.func30, Yba.ntmps30
    go_wp2
    go_ret
    exact ⟨⟨_, rfl⟩, rfl⟩

set_option maxHeartbeats 1000000 in
theorem len_any (x : Nat) (w : World) (h : x ≤ 12) : Calls Yba.prog 17 #[.int .u64 (x : Nat)] w fun e w' => (∃ r, e = .returned (.int .i64 r)) ∧ w = w' := by
  have HL := len64_any x w h
  go_enter Yba.func17, Yba.ntmps17
  go_wp2_with fail
  refine HL.mono ?_
  rintro e w' ⟨⟨r, rfl⟩, rfl⟩
  go_wp2
  go_ret
  exact ⟨⟨_, rfl⟩, rfl⟩

end Go.Proofs.Ybulkeidm
