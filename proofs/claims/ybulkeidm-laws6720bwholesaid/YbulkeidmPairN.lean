/-
  slices.SortFunc over pairs: nothing to sort.
-/
import Derived.Test.YbulkeidmLen
namespace Go.Proofs.Ybulkeidm
open Go.RowKit

set_option maxHeartbeats 1000000 in
set_option maxRecDepth 100000 in
theorem insP_none (sl fv : Value) (w : World) :
    Calls Yba.prog 21 #[sl, .int .i64 0, .int .i64 0, fv] w fun e w' => e = .returned (.tuple #[]) ∧ w = w' := by
  go_enter Yba.func21, Yba.ntmps21
  go_wp2
  go_loopw [8] (fun iv wi => iv = .int .i64 1 ∧ w = wi) (fun _ _ => 0)
  case atStart => exact ⟨rfl, rfl⟩
  case round =>
    obtain ⟨rfl, rfl⟩ := hrel
    go_wp2
    go_end0
    exact ⟨rfl, rfl⟩

set_option maxHeartbeats 1000000 in
set_option maxRecDepth 100000 in
theorem pdqP_none (p : Option Addr) (c : Nat) (lim : Int) (fv : Value) (w : World) :
    Calls Yba.prog 16 #[.slice p 0 c, .int .i64 0, .int .i64 0, .int .i64 lim, fv] w fun e w' => e = .returned (.tuple #[]) ∧ w = w' := by
  have HS := insP_none (.slice p 0 c) fv w
  go_enter Yba.func16, Yba.ntmps16
  go_wp2
  go_loopw [1, 2] (fun a b wi => a = .int .i64 0 ∧ b = .int .i64 0 ∧ w = wi) (fun _ _ _ => 0)
  case atStart => exact ⟨rfl, rfl, rfl⟩
  case round =>
    obtain ⟨rfl, rfl, rfl⟩ := hrel
    go_wp2_with fail
    refine HS.mono ?_
    clear HS
    rintro e w1 ⟨rfl, rfl⟩
    go_wp2
    exact bodyPost_ret (v := .tuple #[]) (results_none rfl _ _ _) rfl ⟨rfl, rfl⟩

set_option maxHeartbeats 1000000 in
set_option maxRecDepth 100000 in
theorem sortP_none (p : Option Addr) (c : Nat) (fv : Value) (w : World) :
    Calls Yba.prog 11 #[.slice p 0 c, fv] w fun e w' => e = .returned (.tuple #[]) ∧ w = w' := by
  have HL := len_any 0 w (by omega)
  have HS := fun lim => pdqP_none p c lim fv w
  go_enter Yba.func11, Yba.ntmps11
  go_wp2_with fail
  refine HL.mono ?_
  clear HL
  rintro e w1 ⟨⟨r, rfl⟩, rfl⟩
  go_wp2_with fail
  refine (HS _).mono ?_
  clear HS
  rintro e w1 ⟨rfl, rfl⟩
  go_wp2
  go_end0
  exact ⟨rfl, rfl⟩
end Go.Proofs.Ybulkeidm
