/-
  THE WALKS of LawS6718BWhole: each Go function on the road computes the plain function 'dbl' (repeated doubling, wrapped to 64 bits), 1 or 0.
-/
import Derived.Test.YbulkeickRows
import Derived.WalkKit
import Derived.ProofKit
namespace Go.Proofs.Ybulkeick
open Go.RowKit

/-- Two to the power of d, wrapped to 64 bits: what repeated doubling comes to after k rounds. -/
def dbl : Nat → Int
  | 0 => 1
  | k + 1 => wrap64 (dbl k * 2)

set_option maxHeartbeats 400000 in
theorem pow2_any (d : Int) (w : World) (h0 : 0 ≤ d) (h1 : d ≤ 18446744073709551615) :
    Calls Yba.prog 5 #[.int .u64 d] w fun e w' => e = .returned (.int .i64 (dbl (min d.toNat 64))) ∧ w' = w := by
  go_enter Yba.func5, Yba.ntmps5
  go_wp2
  go_loop [3, 4] (fun v i => ∃ k : Nat, k ≤ 64 ∧ (k : Int) ≤ d ∧ i = .int .u64 k ∧ v = .int .i64 (dbl k)) (fun _ i => 64 - (intOf i).toNat)
  case atStart => exact ⟨0, by omega, by omega, rfl, rfl⟩
  case round =>
    obtain ⟨k, hk, hkd, rfl, rfl⟩ := hrel
    by_cases hlt : (k : Int) < d
    · by_cases hk64 : (k : Int) < 64
      · go_wp2
        go_round
        case rel => exact ⟨k + 1, by omega, by omega, by go_num, rfl⟩
        case measure => simp [intOf]; omega
      · have hd : decide ((k : Int) < 64) = false := by simpa using hk64
        go_wp2
        go_ret
        have e : min d.toNat 64 = k := by omega
        rw [e]
        exact ⟨rfl, rfl⟩
    · have hd : decide ((k : Int) < d) = false := by simpa using hlt
      go_wp2
      go_ret
      have e : min d.toNat 64 = k := by omega
      rw [e]
      exact ⟨rfl, rfl⟩

theorem dbl_shl (n : Nat) : wrap64 (2 ^ min n 64) = dbl (min n 64) := by
  have key : ∀ k : Fin 65, wrap64 (2 ^ k.val) = dbl k.val := by decide +kernel
  exact key ⟨min n 64, by omega⟩

set_option maxHeartbeats 400000 in
theorem lin_le (s f : Int) (w : World) (h0 : 0 ≤ s) (h1 : s ≤ f) (h2 : f ≤ 18446744073709551615) :
    Calls Yba.prog 4 #[.int .u64 s, .int .u64 f] w fun e w' => e = .returned (.int .i64 (dbl (min (f - s).toNat 64))) ∧ w' = w := by
  go_enter Yba.func4, Yba.ntmps4
  go_wp2
  go_ret
  rw [dbl_shl]
  exact ⟨rfl, rfl⟩

set_option maxHeartbeats 400000 in
theorem lin_one (s f : Int) (w : World) (h0 : 0 ≤ f) (h1 : s = f + 1) (h2 : s ≤ 18446744073709551615) :
    Calls Yba.prog 4 #[.int .u64 s, .int .u64 f] w fun e w' => e = .returned (.int .i64 1) ∧ w' = w := by
  subst h1
  go_enter Yba.func4, Yba.ntmps4
  go_wp2
  go_ret
  exact ⟨rfl, rfl⟩

set_option maxHeartbeats 400000 in
theorem lin_far (s f : Int) (w : World) (h0 : 0 ≤ f) (h1 : f + 1 < s) (h2 : s ≤ 18446744073709551615) :
    Calls Yba.prog 4 #[.int .u64 s, .int .u64 f] w fun e w' => e = .returned (.int .i64 0) ∧ w' = w := by
  go_enter Yba.func4, Yba.ntmps4
  go_wp2
  go_ret
  exact ⟨rfl, rfl⟩

set_option maxHeartbeats 400000 in
theorem law_any (s f : Int) (w : World) (h0 : 0 ≤ s) (h1 : s ≤ 18446744073709551615) (h2 : 0 ≤ f) (h3 : f ≤ 18446744073709551615) :
    Calls Yba.prog 3 #[.int .u64 s, .int .u64 f] w fun e w' => e = .returned (.bool true) ∧ w' = w := by
  by_cases c1 : s ≤ f
  · go_enter Yba.func3, Yba.ntmps3
    go_wp2_with (first | (go_at_call 4; refine (lin_le s f w h0 c1 h3).mono ?_; rintro e w' ⟨rfl, rfl⟩) | (go_at_call 5; refine (pow2_any (f - s) _ (by omega) (by omega)).mono ?_; rintro e w' ⟨rfl, rfl⟩))
    go_ret
    exact ⟨by simp, rfl⟩
  · by_cases c2 : s = f + 1
    · subst c2
      go_enter Yba.func3, Yba.ntmps3
      go_wp2_with (first | (go_at_call 4; refine (lin_one (f + 1) f w h2 rfl h1).mono ?_; rintro e w' ⟨rfl, rfl⟩))
      go_ret
      exact ⟨by simp, rfl⟩
    · go_enter Yba.func3, Yba.ntmps3
      go_wp2_with (first | (go_at_call 4; refine (lin_far s f w h2 (by omega) h1).mono ?_; rintro e w' ⟨rfl, rfl⟩))
      go_ret
      exact ⟨by simp, rfl⟩
end Go.Proofs.Ybulkeick
