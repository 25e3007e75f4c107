/-
  THE INPUT, AS THE WALK READS IT; zzs6720bupdlen.
-/
import Derived.Test.YbulkeidmOrdB
namespace Go.Proofs.Ybulkeidm
open Go.RowKit

/-- A read of the input: its numbers, and its two slices. -/
structure RdIn where
  file : Int
  line : Int
  dense : Bool
  pa : Option Addr
  pl : Nat
  pc : Nat
  pv : Nat → Int
  qa : Option Addr
  ql : Nat
  qc : Nat
  qv : Nat → Int

structure ObIn where
  present : Bool
  n8 : Int
  ua : Option Addr
  ul : Nat
  uc : Nat
  uv : Nat → Int
  ra : Option Addr
  rl : Nat
  rc : Nat
  rd : Nat → RdIn

/-- A slice of n one-cell elements. -/
def InRow (w : World) (ao : Option Addr) (n : Nat) (f : Nat → Value) : Prop := ∀ k, k < n → ∃ b o, ao = some ⟨b, o, none⟩ ∧ w.cell? ⟨b, o + k, none⟩ = some (f k)

structure RdAt (w : World) (b o : Nat) (r : RdIn) : Prop where
  c0 : w.cell? ⟨b, o, none⟩ = some (.int .i64 r.file)
  c1 : w.cell? ⟨b, o + 1, none⟩ = some (.int .i64 r.line)
  c2 : w.cell? ⟨b, o + 2, none⟩ = some (.bool r.dense)
  c3 : w.cell? ⟨b, o + 3, none⟩ = some (.slice r.pa r.pl r.pc)
  c4 : w.cell? ⟨b, o + 4, none⟩ = some (.slice r.qa r.ql r.qc)
  ps : InRow w r.pa r.pl fun k => .int .i64 (r.pv k)
  qs : InRow w r.qa r.ql fun k => .int .u8 (r.qv k)
  q0 : ∀ k, k < r.ql → 0 ≤ r.qv k ∧ r.qv k < 256
  pb : r.pl ≤ 281474976710656
  qb : r.ql ≤ 281474976710656

structure ObAt (w : World) (b o : Nat) (d : ObIn) : Prop where
  c0 : w.cell? ⟨b, o, none⟩ = some (.bool d.present)
  c1 : w.cell? ⟨b, o + 1, none⟩ = some (.int .u8 d.n8)
  c2 : w.cell? ⟨b, o + 2, none⟩ = some (.slice d.ua d.ul d.uc)
  c3 : w.cell? ⟨b, o + 3, none⟩ = some (.slice d.ra d.rl d.rc)
  n0 : 0 ≤ d.n8 ∧ d.n8 < 256
  us : InRow w d.ua d.ul fun k => .int .u8 (d.uv k)
  u0 : ∀ k, k < d.ul → 0 ≤ d.uv k ∧ d.uv k < 256
  rs : ∀ j, j < d.rl → ∃ b' o', d.ra = some ⟨b', o', none⟩ ∧ RdAt w b' (o' + j * 5) (d.rd j)
  ub : d.ul ≤ 281474976710656
  rb : d.rl ≤ 1954687338268

def ObsAt (w : World) (ao : Option Addr) (N : Nat) (d : Nat → ObIn) : Prop := ∀ i, i < N → ∃ b o, ao = some ⟨b, o, none⟩ ∧ ObAt w b (o + i * 4) (d i)

theorem InRow.below {w w' : World} {ao : Option Addr} {n : Nat} {f : Nat → Value} {b0 : Nat} (h : InRow w ao n f) (hb : Below b0 w w') (hs : w.heap.size ≤ b0) : InRow w' ao n f := by
  intro k hk
  obtain ⟨b, o, h1, h2⟩ := h k hk
  exact ⟨b, o, h1, by rw [hb.cell (Nat.lt_of_lt_of_le (lt_cell h2) hs)]; exact h2⟩
theorem RdAt.below {w w' : World} {b o : Nat} {r : RdIn} {b0 : Nat} (h : RdAt w b o r) (hb : Below b0 w w') (hs : w.heap.size ≤ b0) : RdAt w' b o r :=
  have hc : ∀ {a : Addr} {v : Value}, w.cell? a = some v → w'.cell? a = some v := fun h2 => by rw [hb.cell (Nat.lt_of_lt_of_le (lt_cell h2) hs)]; exact h2
  ⟨hc h.c0, hc h.c1, hc h.c2, hc h.c3, hc h.c4, h.ps.below hb hs, h.qs.below hb hs, h.q0, h.pb, h.qb⟩
theorem ObAt.below {w w' : World} {b o : Nat} {d : ObIn} {b0 : Nat} (h : ObAt w b o d) (hb : Below b0 w w') (hs : w.heap.size ≤ b0) : ObAt w' b o d :=
  have hc : ∀ {a : Addr} {v : Value}, w.cell? a = some v → w'.cell? a = some v := fun h2 => by rw [hb.cell (Nat.lt_of_lt_of_le (lt_cell h2) hs)]; exact h2
  ⟨hc h.c0, hc h.c1, hc h.c2, hc h.c3, h.n0, h.us.below hb hs, h.u0, fun j hj => by
    obtain ⟨b', o', h1, h2⟩ := h.rs j hj
    exact ⟨b', o', h1, h2.below hb hs⟩, h.ub, h.rb⟩
theorem ObsAt.below {w w' : World} {ao : Option Addr} {N : Nat} {d : Nat → ObIn} {b0 : Nat} (h : ObsAt w ao N d) (hb : Below b0 w w') (hs : w.heap.size ≤ b0) : ObsAt w' ao N d := fun i hi => by
  obtain ⟨b, o, h1, h2⟩ := h i hi
  exact ⟨b, o, h1, h2.below hb hs⟩

theorem InRow.drawn {w : World} {ao : Option Addr} {n : Nat} {f : Nat → Value} (h : InRow w ao n f) (k : Nat) : InRow (w.drewN k) ao n f := h
theorem RdAt.drawn {w : World} {b o : Nat} {r : RdIn} (h : RdAt w b o r) (k : Nat) : RdAt (w.drewN k) b o r := ⟨h.c0, h.c1, h.c2, h.c3, h.c4, h.ps.drawn k, h.qs.drawn k, h.q0, h.pb, h.qb⟩
theorem ObAt.drawn {w : World} {b o : Nat} {d : ObIn} (h : ObAt w b o d) (k : Nat) : ObAt (w.drewN k) b o d :=
  ⟨h.c0, h.c1, h.c2, h.c3, h.n0, h.us.drawn k, h.u0, fun j hj => by
    obtain ⟨b', o', h1, h2⟩ := h.rs j hj
    exact ⟨b', o', h1, h2.drawn k⟩, h.ub, h.rb⟩
theorem ObsAt.drawn {w : World} {ao : Option Addr} {N : Nat} {d : Nat → ObIn} (h : ObsAt w ao N d) (k : Nat) : ObsAt (w.drewN k) ao N d := fun i hi => by
  obtain ⟨b, o, h1, h2⟩ := h i hi
  exact ⟨b, o, h1, h2.drawn k⟩

/-- The number of replica q's updates. -/
def updLen (d : ObIn) (q : Nat) : Nat := if q < d.ul then (d.uv q).toNat % 6 else 0

set_option maxHeartbeats 1000000 in
set_option maxRecDepth 100000 in
theorem updlen_any (b o q : Nat) (d : ObIn) (w : World) (h : ObAt w b o d) :
    Calls Yba.prog 4 #[.pointer (some ⟨b, o, none⟩), .int .i64 (q : Nat)] w fun e w' => e = .returned (.int .i64 (updLen d q : Nat)) ∧ w = w' := by
  have c2 := h.c2
  have hub := h.ub
  by_cases hlt : q < d.ul
  · obtain ⟨b', o', h1, h2⟩ := h.us q hlt
    have h0 := h.u0 q hlt
    have hr : Hid ((updLen d q : Int) = d.uv q % 6) := by show (updLen d q : Int) = d.uv q % 6; rw [updLen, if_pos hlt]; omega
    rw [h1] at c2
    rw [hr.out]
    obtain ⟨v, hv⟩ : ∃ v, v = d.uv q := ⟨_, rfl⟩
    simp only at h2
    rw [← hv] at h2 h0 ⊢
    obtain ⟨ul, hul⟩ : ∃ ul, ul = d.ul := ⟨_, rfl⟩
    rw [← hul] at c2 hlt hub
    clear hr hv h h1 hul
    have i1 : (q : Int) < (ul : Int) := by omega
    go_enter Yba.func4, Yba.ntmps4
    go_wp2
    go_ret
    exact ⟨rfl, rfl⟩
  · have hr : updLen d q = 0 := by rw [updLen, if_neg hlt]
    rw [hr]
    obtain ⟨ul, hul⟩ : ∃ ul, ul = d.ul := ⟨_, rfl⟩
    rw [← hul] at c2 hlt hub
    have hd : decide ((q : Int) < (ul : Int)) = false := by simp; omega
    have hd2 : decide (q < ul) = false := by simp; omega
    clear hr h hul hlt
    go_enter Yba.func4, Yba.ntmps4
    go_wp2
    go_ret
    exact ⟨rfl, rfl⟩
end Go.Proofs.Ybulkeidm
