/-
  THE LEAVES of LawS6720BWhole by their contracts: cmp.Compare, cmp.Or, compareEvents and its closure, the law's own 'less', settle's closure.
-/
import Derived.Test.YbulkeidmRows
import Derived.WalkKit
import Derived.Deep.QuietTactic
import Derived.BigQuiet
import Derived.Deep.RegionHeld3
import Derived.WalkSmall
namespace Go.Proofs.Ybulkeidm
open Go.RowKit

/-- cmp.Compare on integers. -/
def cmpi (x y : Int) : Int := if x < y then -1 else if y < x then 1 else 0
/-- Files first, then lines. -/
def orv (x y : Int) : Int := if x = 0 then y else x
def cmpEv (f1 l1 f2 l2 : Int) : Int := orv (cmpi f1 f2) (cmpi l1 l2)
/-- The law's own order. -/
def lessEv (f1 l1 f2 l2 : Int) : Bool := if f1 = f2 then decide (l1 < l2) else decide (f1 < f2)

theorem cmpEv_neg (f1 l1 f2 l2 : Int) : (cmpEv f1 l1 f2 l2 < 0) ↔ lessEv f1 l1 f2 l2 = true := by
  unfold cmpEv orv cmpi lessEv
  by_cases h : f1 = f2
  · subst h; simp; split <;> (try split) <;> simp <;> omega
  · rw [if_neg h]
    by_cases h1 : f1 < f2
    · simp [h1]
    · have : f2 < f1 := by omega
      simp [h1, this]

set_option maxHeartbeats 400000 in
theorem isNaN_any (x : Int) (w : World) : Calls Yba.prog 18 #[.int .i64 x] w fun e w' => e = .returned (.bool false) ∧ w = w' := by
  have e1 : (x != x) = false := by simp
  go_enter Yba.func18, Yba.ntmps18
  go_wp2
  go_ret
  exact ⟨rfl, rfl⟩

set_option maxHeartbeats 400000 in
theorem compare_any (x y : Int) (w : World) : Calls Yba.prog 13 #[.int .i64 x, .int .i64 y] w fun e w' => e = .returned (.int .i64 (cmpi x y)) ∧ w = w' := by
  by_cases h1 : x < y
  · have hc : cmpi x y = -1 := by simp [cmpi, h1]
    rw [hc]
    go_enter Yba.func13, Yba.ntmps13
    go_wp2_with (go_at_call 18; refine (isNaN_any _ _).mono ?_; rintro e w' ⟨rfl, rfl⟩)
    go_ret
    exact ⟨rfl, rfl⟩
  · by_cases h2 : y < x
    · have hc : cmpi x y = 1 := by simp [cmpi, h1, h2]
      rw [hc]
      go_enter Yba.func13, Yba.ntmps13
      go_wp2_with (go_at_call 18; refine (isNaN_any _ _).mono ?_; rintro e w' ⟨rfl, rfl⟩)
      go_ret
      exact ⟨rfl, rfl⟩
    · have hc : cmpi x y = 0 := by simp [cmpi, h1, h2]
      rw [hc]
      go_enter Yba.func13, Yba.ntmps13
      go_wp2_with (go_at_call 18; refine (isNaN_any _ _).mono ?_; rintro e w' ⟨rfl, rfl⟩)
      go_ret
      exact ⟨rfl, rfl⟩

set_option maxHeartbeats 400000 in
theorem or_any (b : Nat) (x y : Int) (w : World) (h0 : w.cell? ⟨b, 0, none⟩ = some (.int .i64 x)) (h1 : w.cell? ⟨b, 1, none⟩ = some (.int .i64 y)) :
    Calls Yba.prog 15 #[.slice (some ⟨b, 0, none⟩) 2 2] w fun e w' => e = .returned (.int .i64 (orv x y)) ∧ w = w' := by
  go_enter Yba.func15, Yba.ntmps15
  go_wp2
  go_loop [8] (fun i => i = .int .i64 0 ∨ (i = .int .i64 1 ∧ x = 0) ∨ (i = .int .i64 2 ∧ x = 0 ∧ y = 0)) (fun i => 2 - (intOf i).toNat)
  case atStart => exact .inl rfl
  case round =>
    rcases hrel with rfl | ⟨rfl, hx⟩ | ⟨rfl, hx, hy⟩
    · by_cases hx : x = 0
      · have hb : (x != 0) = false := by simp [hx]
        have HX : Hid (x = 0) := hx
        clear hx
        go_wp2
        go_round
        case rel => exact .inr (.inl ⟨rfl, HX.out⟩)
        case measure => simp [intOf]
      · have hb : (x != 0) = true := by simp [hx]
        go_wp2
        go_ret
        exact ⟨by simp [orv, hx], rfl⟩
    · have HX : Hid (x = 0) := hx
      clear hx
      by_cases hy : y = 0
      · have hb : (y != 0) = false := by simp [hy]
        have HY : Hid (y = 0) := hy
        clear hy
        go_wp2
        go_round
        case rel => exact .inr (.inr ⟨rfl, HX.out, HY.out⟩)
        case measure => simp [intOf]
      · have hb : (y != 0) = true := by simp [hy]
        go_wp2
        go_ret
        exact ⟨by simp [orv, HX.out], rfl⟩
    · have HX : Hid (x = 0 ∧ y = 0) := ⟨hx, hy⟩
      clear hx hy
      have hd : decide ((2 : Int) < 2) = false := by decide
      go_wp2
      go_ret
      exact ⟨by simp [orv, HX.out], rfl⟩

theorem lt_cell {w : World} {a : Addr} {v : Value} (h : w.cell? a = some v) : a.block < w.heap.size := by
  rcases Nat.lt_or_ge a.block w.heap.size with h1 | h1
  · exact h1
  · have : w.heap[a.block]? = Option.none := Array.getElem?_eq_none h1
    simp [World.cell?, this] at h

set_option maxHeartbeats 1000000 in
theorem compareEvents_any (a b : Nat) (f1 l1 f2 l2 : Int) (w : World)
    (ha0 : w.cell? ⟨a, 0, none⟩ = some (.int .i64 f1)) (ha1 : w.cell? ⟨a, 1, none⟩ = some (.int .i64 l1))
    (hb0 : w.cell? ⟨b, 0, none⟩ = some (.int .i64 f2)) (hb1 : w.cell? ⟨b, 1, none⟩ = some (.int .i64 l2)) :
    Calls Yba.prog 10 #[.pointer (some ⟨a, 0, none⟩), .pointer (some ⟨b, 0, none⟩)] w fun e w' => e = .returned (.int .i64 (cmpEv f1 l1 f2 l2)) ∧ Below w.heap.size w w' := by
  have n0 := World.new_ne w ⟨a, 0, none⟩ ha0
  have n1 := World.new_ne w ⟨a, 1, none⟩ ha1
  have n2 := World.new_ne w ⟨b, 0, none⟩ hb0
  have n3 := World.new_ne w ⟨b, 1, none⟩ hb1
  go_enter Yba.func10, Yba.ntmps10
  go_wp2
  go_region_held3 (fun w' => w'.cell? ⟨a, 0, none⟩ = some (.int .i64 f1) ∧ w'.cell? ⟨a, 1, none⟩ = some (.int .i64 l1) ∧ w'.cell? ⟨b, 0, none⟩ = some (.int .i64 f2) ∧ w'.cell? ⟨b, 1, none⟩ = some (.int .i64 l2)) (go_keep)
    (first | (go_at_call 13; refine (compare_any _ _ _).mono ?_; rintro e w' ⟨rfl, rfl⟩) | (go_at_call 15; refine (or_any _ (cmpi f1 f2) (cmpi l1 l2) _ ?_ ?_).mono ?_; (simp); (simp); rintro e w' ⟨rfl, rfl⟩))
  go_wp2
  go_ret
  exact ⟨rfl, by first | exact ((Below.refl _ _).alloc (Nat.le_refl _) _).drew | exact ((Below.refl _ _).drew).alloc (by simp) _⟩

/-- A read that lies in memory: its event's file and line. -/
structure Key (w : World) (d : Nat) (f l : Int) : Prop where
  ex : ∃ e, w.cell? ⟨d, 0, none⟩ = some (.pointer (some ⟨e, 0, none⟩)) ∧ w.cell? ⟨e, 0, none⟩ = some (.int .i64 f) ∧ w.cell? ⟨e, 1, none⟩ = some (.int .i64 l)

set_option maxHeartbeats 1000000 in
theorem closure_any (d1 d2 : Nat) (f1 l1 f2 l2 : Int) (w : World) (h1 : Key w d1 f1 l1) (h2 : Key w d2 f2 l2) :
    Calls Yba.prog 9 #[.pointer (some ⟨d1, 0, none⟩), .pointer (some ⟨d2, 0, none⟩)] w fun e w' => e = .returned (.int .i64 (cmpEv f1 l1 f2 l2)) ∧ Below w.heap.size w w' := by
  obtain ⟨a, ha, ha0, ha1⟩ := h1.ex
  obtain ⟨b, hb, hb0, hb1⟩ := h2.ex
  have n0 := World.new_ne w ⟨d1, 0, none⟩ ha
  have n1 := World.new_ne w ⟨d2, 0, none⟩ hb
  go_enter Yba.func9, Yba.ntmps9
  go_wp2
  go_region_held3 (fun w' => w'.cell? ⟨d1, 0, none⟩ = some (.pointer (some ⟨a, 0, none⟩)) ∧ w'.cell? ⟨d2, 0, none⟩ = some (.pointer (some ⟨b, 0, none⟩))) (first | go_keep | (refine ⟨?_, ?_⟩ <;> (rw [hbel.cell (lt_cell (by assumption))]; assumption)))
    ((go_at_call 10; refine (compareEvents_any a b f1 l1 f2 l2 _ ?_ ?_ ?_ ?_).mono ?_; (simp [*]); (simp [*]); (simp [*]); (simp [*]); rintro e w' ⟨rfl, hbel⟩))
  go_wp2
  go_ret
  exact ⟨rfl, (Below.refl _ w).drew.trans hbel⟩

set_option maxHeartbeats 1000000 in
theorem less_any (d1 d2 : Nat) (f1 l1 f2 l2 : Int) (w : World) (h1 : Key w d1 f1 l1) (h2 : Key w d2 f2 l2) :
    Calls Yba.prog 6 #[.pointer (some ⟨d1, 0, none⟩), .pointer (some ⟨d2, 0, none⟩)] w fun e w' => e = .returned (.bool (lessEv f1 l1 f2 l2)) ∧ ∃ q, w' = w.drewN q := by
  obtain ⟨a, ha, ha0, ha1⟩ := h1.ex
  obtain ⟨b, hb, hb0, hb1⟩ := h2.ex
  by_cases hf : f1 = f2
  · have hl : lessEv f1 l1 f2 l2 = decide (l1 < l2) := by simp [lessEv, hf]
    have hb : (f1 != f2) = false := by simp [hf]
    rw [hl]
    clear hf hl
    go_enter Yba.func6, Yba.ntmps6
    go_wp2
    go_quiet (fail)
    go_wp2
    go_quiet (fail)
    go_wp2
    go_ret
    exact ⟨rfl, _, World.drewN_drewN _ _ _⟩
  · have hl : lessEv f1 l1 f2 l2 = decide (f1 < f2) := by simp [lessEv, hf]
    have hb : (f1 != f2) = true := by simp [hf]
    rw [hl]
    clear hf hl
    go_enter Yba.func6, Yba.ntmps6
    go_wp2
    go_quiet (fail)
    go_wp2
    go_quiet (fail)
    go_wp2
    go_ret
    exact ⟨rfl, _, World.drewN_drewN _ _ _⟩

set_option maxHeartbeats 1000000 in
theorem pairCmp_any (r1 p1 r2 p2 : Int) (w : World) :
    Calls Yba.prog 12 #[.agg #[.int .i64 r1, .int .i64 p1], .agg #[.int .i64 r2, .int .i64 p2]] w fun e w' => e = .returned (.int .i64 (cmpi r1 r2)) ∧ Below w.heap.size w w' := by
  go_enter Yba.func12, Yba.ntmps12
  go_wp2_with (go_at_call 13; refine (compare_any _ _ _).mono ?_; rintro e w' ⟨rfl, rfl⟩)
  go_ret
  exact ⟨rfl, ((Below.refl _ _).alloc (Nat.le_refl _) _).alloc (by simp) _⟩
end Go.Proofs.Ybulkeidm
