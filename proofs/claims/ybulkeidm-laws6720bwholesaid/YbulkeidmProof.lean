/-
  THE ROW of LawS6720BWhole.
-/
import Derived.Test.YbulkeidmLaw
import Derived.ProofKit
import Derived.OpenShut
import Derived.SizedLaws
import Derived.Deep.Slices
namespace Go.Proofs.Ybulkeidm
open Go.ChangeShapes Go.WideShapes Go.ChangeAt Go.RowKit

theorem own : ownKnob Yba.prog.godebug = none := by kernel_rfl
theorem laidOut : laidOutB Yba.prog = true := by kernel_rfl
theorem bytes29 : Yba.prog.bytesOf 29 = 72 := by kernel_rfl
theorem bytes5 : Yba.prog.bytesOf 5 = 1 := by kernel_rfl
theorem bytes3 : Yba.prog.bytesOf 3 = 8 := by kernel_rfl
theorem cells26 : Yba.prog.cellsOf 26 = 4 := by kernel_rfl
theorem cells29 : Yba.prog.cellsOf 29 = 5 := by kernel_rfl
theorem cells24 : Yba.prog.cellsOf 24 = 1 := by kernel_rfl
theorem cells27 : Yba.prog.cellsOf 27 = 1 := by kernel_rfl
theorem cells23 : Yba.prog.cellsOf 23 = 1 := by kernel_rfl
theorem cells5 : Yba.prog.cellsOf 5 = 1 := by kernel_rfl
theorem cells4 : Yba.prog.cellsOf 4 = 1 := by kernel_rfl
theorem cells3 : Yba.prog.cellsOf 3 = 1 := by kernel_rfl

theorem mem_weightsAll {H : Type} {P : Program} {e : TypeId} : ∀ {ds : List (DataW H)} {d : DataW H} {n : Nat}, d ∈ ds → n ∈ d.weights P e → n ∈ DataW.weightsAll P e ds
  | x :: ds, d, n, hd, hn => by
    rw [DataW.weightsAll, List.mem_append]
    rcases List.mem_cons.1 hd with rfl | h
    · exact .inl hn
    · exact .inr (mem_weightsAll h hn)

section
variable {H : Type} {enc : TypeId × Value → H} {W : World}

/-- A slice of integers, opened. -/
theorem row_of {t e : TypeId} {k : IntKind} {bs fuel : Nat} {cs : List Value} {x : DataW H × List MemPlace} (ht : Yba.prog.underlying t = some (.slice e)) (he : Yba.prog.underlying e = some (.int k)) (hc : Yba.prog.cellsOf e = 1) (hbs : Yba.prog.bytesOf e = bs) (hb1 : 1 ≤ bs)
    (h : DataW.trod enc Yba.prog W 0 (fun _ => true) true fuel t cs = some x) (hw : ∀ n ∈ x.1.weights Yba.prog t, n ≤ reachBytes) :
    ∃ ao len cap, ∃ f : Nat → Int, cs = [.slice ao len cap] ∧ InRow W ao len (fun j => .int k (f j)) ∧ (∀ j, j < len → (Lit.int k (f j)).wf = true) ∧ len ≤ 281474976710656 := by
  rcases Deep.open_slice1 ht hc h with ⟨rfl, _⟩ | ⟨a, len, cap, m, n, V, Dd, Pl, rfl, _, hl, _, hm, rfl, hx⟩
  · exact ⟨none, 0, 0, fun _ => 0, rfl, fun j hj => by omega, fun j hj => by omega, by omega⟩
  · rw [if_pos rfl] at hm
    subst hm
    have hi : ∀ i, i < len → ∃ z : Int, V i = .int k z ∧ (Lit.int k z).wf = true := fun i hi => by
      obtain ⟨z, h1, _, h2⟩ := DataW.trod_int he (hx i (by omega)).2
      exact ⟨z, by simpa using h1, h2⟩
    obtain ⟨f, hf⟩ := Deep.choose_lt (α := Int) hi
    refine ⟨some a, len, m, f, rfl, fun j hj => ?_, fun j hj => (hf j hj).2, ?_⟩
    · obtain ⟨b, off, spot⟩ := a
      have hspot : spot = none := by simpa [Addr.add] using World.cell?_spot (hx 0 (by omega)).1
      subst hspot
      refine ⟨b, off, rfl, ?_⟩
      have h1 := (hx j (by omega)).1
      rw [Go.WideShapes.add_plain, (hf j hj).1] at h1
      exact h1
    · have h1 := hw ((len + (m - len)) * bs) (by simp [DataW.weights, ht, hbs])
      have e1 : len + (m - len) = m := by omega
      rw [e1] at h1
      have h2 : m ≤ m * bs := Nat.le_mul_of_pos_right m (by omega)
      unfold reachBytes at h1
      omega

theorem list5 {l : List Value} (h : l.length = 5) : ∃ a b c d e, l = [a, b, c, d, e] := by
  match l, h with
  | [a, b, c, d, e], _ => exact ⟨a, b, c, d, e, rfl⟩
theorem list4 {l : List Value} (h : l.length = 4) : ∃ a b c d, l = [a, b, c, d] := by
  match l, h with
  | [a, b, c, d], _ => exact ⟨a, b, c, d, rfl⟩

set_option maxRecDepth 100000 in
/-- A read of the input, opened. -/
theorem rd_of {fuel : Nat} {cs : List Value} {x : DataW H × List MemPlace} {b o : Nat} (h : DataW.trod enc Yba.prog W 0 (fun _ => true) true fuel 29 cs = some x) (hw : ∀ n ∈ x.1.weights Yba.prog 29, n ≤ reachBytes)
    (hc : ∀ i v, cs[i]? = some v → W.cell? ⟨b, o + i, none⟩ = some v) : ∃ r : RdIn, RdAt W b o r := by
  obtain ⟨xs, n, _, rfl, hl, hlen, hf⟩ := DataW.trod_struct Yba.underlying29 h
  rw [cells29] at hl
  obtain ⟨c0, c1, c2, c3, c4, rfl⟩ := list5 hl
  match xs, hlen with
  | [y0, y1, y2, y3, y4], _ =>
    have f0 := hf 0 _ rfl
    have f1 := hf 1 _ rfl
    have f2 := hf 2 _ rfl
    have f3 := hf 3 _ rfl
    have f4 := hf 4 _ rfl
    simp only [List.getElem?_cons_zero, List.getElem?_cons_succ] at f0 f1 f2 f3 f4
    have hsub : ∀ (j : Nat) (t : TypeId) (d : DataW H), [(3 : TypeId), 3, 4, 27, 23][j]? = some t → [y0.1, y1.1, y2.1, y3.1, y4.1][j]? = some d → ∀ n ∈ d.weights Yba.prog t, n ≤ reachBytes := fun j t d h1 h2 n hn => hw n (by
      simp only [DataW.weights, Yba.underlying29]
      exact DataW.weights_mem_each (j := j) h1 h2 n hn)
    obtain ⟨z0, e0, _, _⟩ := DataW.trod_int Yba.underlying3 f0
    obtain ⟨z1, e1, _, _⟩ := DataW.trod_int Yba.underlying3 f1
    obtain ⟨bd, e2, _⟩ := DataW.trod_bool Yba.underlying4 f2
    obtain ⟨pa, pl, pc, pv, e3, hp, _, hpb⟩ := row_of Yba.underlying27 Yba.underlying3 cells3 bytes3 (by omega) f3 (hsub 3 27 y3.1 rfl rfl)
    obtain ⟨qa, ql, qc, qv, e4, hq, hq0, hqb⟩ := row_of Yba.underlying23 Yba.underlying5 cells5 bytes5 (by omega) f4 (hsub 4 23 y4.1 rfl rfl)
    cases e0; cases e1; cases e2; cases e3; cases e4
    exact ⟨⟨z0, z1, bd, pa, pl, pc, pv, qa, ql, qc, qv⟩, hc 0 _ rfl, hc 1 _ rfl, hc 2 _ rfl, hc 3 _ rfl, hc 4 _ rfl, hp, hq, fun k hk => by have := bounds_u8 (hq0 k hk); show 0 ≤ qv k ∧ qv k < 256; omega, hpb, hqb⟩

theorem cells_plain {a : Addr} {n : Nat} {cs : List Value} {b off : Nat} {i : Nat} (ha : a = ⟨b, off, none⟩) (h : W.cells? 0 (a.add i) n = some cs) : ∀ j v, cs[j]? = some v → W.cell? ⟨b, off + i + j, none⟩ = some v := fun j v hv => by
  obtain ⟨_, hlen, hc⟩ := World.cells?_some h
  have hj : j < n := by
    rcases Nat.lt_or_ge j n with h1 | h1
    · exact h1
    · rw [List.getElem?_eq_none (by omega)] at hv; cases hv
  have h1 := hc j hj
  rw [ha, Deep.add_add, Go.WideShapes.add_plain, hv] at h1
  rw [Nat.add_assoc]
  exact h1
theorem spot_none {a : Addr} {n : Nat} {cs : List Value} (hn : 0 < n) (h : W.cells? 0 (a.add (0 * n)) n = some cs) : a.spot = none := by
  obtain ⟨_, hlen, hc⟩ := World.cells?_some h
  have h1 := hc 0 hn
  rw [List.getElem?_eq_getElem (by omega)] at h1
  have h2 := World.cell?_spot h1
  simpa [Addr.add] using h2

/-- The reads of an object, opened. -/
theorem rds_of {fuel : Nat} {cs : List Value} {x : DataW H × List MemPlace} (h : DataW.trod enc Yba.prog W 0 (fun _ => true) true fuel 24 cs = some x) (hw : ∀ n ∈ x.1.weights Yba.prog 24, n ≤ reachBytes) :
    ∃ ra rl rc, ∃ rd : Nat → RdIn, cs = [.slice ra rl rc] ∧ (∀ j, j < rl → ∃ b' o', ra = some ⟨b', o', none⟩ ∧ RdAt W b' (o' + j * 5) (rd j)) ∧ rl ≤ 1954687338268 := by
  rcases Deep.open_slice Yba.underlying24 h with ⟨rfl, _⟩ | ⟨a, len, cap, m, n, Dd, Pl, rfl, _, hl, _, hm, rfl, hx⟩
  · exact ⟨none, 0, 0, fun _ => ⟨0, 0, false, none, 0, 0, fun _ => 0, none, 0, 0, fun _ => 0⟩, rfl, fun j hj => by omega, by omega⟩
  · rw [if_pos rfl] at hm
    subst hm
    rw [cells29] at hx
    obtain ⟨b, off, spot⟩ := a
    have hall : ∀ j, j < len → ∃ r : RdIn, spot = none ∧ RdAt W b (off + j * 5) r := fun j hj => by
      obtain ⟨cs0, h01, _⟩ := hx 0 (by omega)
      have hs := spot_none (by omega) h01
      simp only at hs
      obtain ⟨cs', h1, h2⟩ := hx j (by omega)
      obtain ⟨r, hr⟩ := rd_of h2 (fun q hq => hw q (by
        simp only [DataW.weights, Yba.underlying24]
        exact List.mem_cons_of_mem _ (List.mem_append.2 (.inl (mem_weightsAll (List.mem_map.2 ⟨j, List.mem_range.2 hj, rfl⟩) hq))))) (cells_plain (by rw [hs]) h1)
      exact ⟨r, hs, hr⟩
    obtain ⟨rd, hrd⟩ := @Deep.choose_lt RdIn ⟨⟨0, 0, false, none, 0, 0, fun _ => 0, none, 0, 0, fun _ => 0⟩⟩ len _ hall
    refine ⟨_, len, m, rd, rfl, fun j hj => ⟨b, off, by rw [(hrd j hj).1], (hrd j hj).2⟩, ?_⟩
    have h1 := hw ((len + (m - len)) * 72) (by simp [DataW.weights, Yba.underlying24, bytes29])
    unfold reachBytes at h1
    omega

set_option maxRecDepth 100000 in
/-- An object of the input, opened. -/
theorem ob_of {fuel : Nat} {cs : List Value} {x : DataW H × List MemPlace} {b o : Nat} (h : DataW.trod enc Yba.prog W 0 (fun _ => true) true fuel 26 cs = some x) (hw : ∀ n ∈ x.1.weights Yba.prog 26, n ≤ reachBytes)
    (hc : ∀ i v, cs[i]? = some v → W.cell? ⟨b, o + i, none⟩ = some v) : ∃ d : ObIn, ObAt W b o d := by
  obtain ⟨xs, n, _, rfl, hl, hlen, hf⟩ := DataW.trod_struct Yba.underlying26 h
  rw [cells26] at hl
  obtain ⟨c0, c1, c2, c3, rfl⟩ := list4 hl
  match xs, hlen with
  | [y0, y1, y2, y3], _ =>
    have f0 := hf 0 _ rfl
    have f1 := hf 1 _ rfl
    have f2 := hf 2 _ rfl
    have f3 := hf 3 _ rfl
    simp only [List.getElem?_cons_zero, List.getElem?_cons_succ] at f0 f1 f2 f3
    have hsub : ∀ (j : Nat) (t : TypeId) (d : DataW H), [(4 : TypeId), 5, 23, 24][j]? = some t → [y0.1, y1.1, y2.1, y3.1][j]? = some d → ∀ n ∈ d.weights Yba.prog t, n ≤ reachBytes := fun j t d h1 h2 n hn => hw n (by
      simp only [DataW.weights, Yba.underlying26]
      exact DataW.weights_mem_each (j := j) h1 h2 n hn)
    obtain ⟨bp, e0, _⟩ := DataW.trod_bool Yba.underlying4 f0
    obtain ⟨n8, e1, _, w1⟩ := DataW.trod_int Yba.underlying5 f1
    obtain ⟨ua, ul, uc, uv, e2, hu, hu0, hub⟩ := row_of Yba.underlying23 Yba.underlying5 cells5 bytes5 (by omega) f2 (hsub 2 23 y2.1 rfl rfl)
    obtain ⟨ra, rl, rc, rd, e3, hr, hrb⟩ := rds_of f3 (hsub 3 24 y3.1 rfl rfl)
    cases e0; cases e1; cases e2; cases e3
    exact ⟨⟨bp, n8, ua, ul, uc, uv, ra, rl, rc, rd⟩, hc 0 _ rfl, hc 1 _ rfl, hc 2 _ rfl, hc 3 _ rfl, by have := bounds_u8 w1; show 0 ≤ n8 ∧ n8 < 256; omega, hu, fun k hk => by have := bounds_u8 (hu0 k hk); show 0 ≤ uv k ∧ uv k < 256; omega, hr, hub, hrb⟩

/-- The first argument, opened. -/
theorem obs_of {fuel : Nat} {ao : Option Addr} {N cO : Nat} {x : DataW H × List MemPlace} (h : DataW.trod enc Yba.prog W 0 (fun _ => true) true fuel 22 [.slice ao N cO] = some x) (hw : ∀ n ∈ x.1.weights Yba.prog 22, n ≤ reachBytes) :
    ∃ D : Nat → ObIn, ObsAt W ao N D := by
  rcases Deep.open_slice Yba.underlying22 h with ⟨hcs, _⟩ | ⟨a, len, cap, m, n, Dd, Pl, hcs, _, hl, _, hm, hxx, hx⟩
  · simp at hcs
    obtain ⟨rfl, rfl, rfl⟩ := hcs
    exact ⟨fun _ => ⟨false, 0, none, 0, 0, fun _ => 0, none, 0, 0, fun _ => ⟨0, 0, false, none, 0, 0, fun _ => 0, none, 0, 0, fun _ => 0⟩⟩, fun i hi => by omega⟩
  · simp at hcs
    obtain ⟨rfl, rfl, rfl⟩ := hcs
    subst hxx
    rw [if_pos rfl] at hm
    subst hm
    rw [cells26] at hx
    obtain ⟨b, off, spot⟩ := a
    have hall : ∀ j, j < N → ∃ d : ObIn, spot = none ∧ ObAt W b (off + j * 4) d := fun j hj => by
      obtain ⟨cs0, h01, _⟩ := hx 0 (by omega)
      have hs := spot_none (by omega) h01
      simp only at hs
      obtain ⟨cs', h1, h2⟩ := hx j (by omega)
      obtain ⟨d, hd⟩ := ob_of h2 (fun q hq => hw q (by
        simp only [DataW.weights, Yba.underlying22]
        exact List.mem_cons_of_mem _ (List.mem_append.2 (.inl (mem_weightsAll (List.mem_map.2 ⟨j, List.mem_range.2 hj, rfl⟩) hq))))) (cells_plain (by rw [hs]) h1)
      exact ⟨d, hs, hd⟩
    obtain ⟨D, hD⟩ := @Deep.choose_lt ObIn ⟨⟨false, 0, none, 0, 0, fun _ => 0, none, 0, 0, fun _ => ⟨0, 0, false, none, 0, 0, fun _ => 0, none, 0, 0, fun _ => 0⟩⟩⟩ N _ hall
    exact ⟨D, fun i hi => ⟨b, off, by rw [(hD i hi).1], (hD i hi).2⟩⟩
end

set_option maxRecDepth 100000 in
theorem lifted (os : Os) (started : os.Started) (H : Type) (enc : TypeId × Value → H) :
    ReturnsInHanded {} Yba.checked os 3 .any (Rows.lawS6720BWholeSpec.pre6 enc Yba.prog Yba.f3 Rows.lawS6720BWholeRow.domain false) (Rows.lawS6720BWholeSpec.post enc Yba.prog Yba.f3 false true false false) := by
  refine returnsInHanded_of_change_sized (C := Yba.checked) own started (by kernel_rfl) Yba.func3
    (ChangeSpec.witness6 (enc := enc) (C := Yba.checked) false ⟨#[], #[.slice none 0 0, .slice none 0 0], []⟩ 8 (by kernel_rfl) (by kernel_rfl) (by kernel_rfl) (by kernel_rfl)) ?_
  intro W base args ds gs before hval0 hW hcnd hsz0 _
  have hval : ∀ (j : Nat) t v, Yba.f3.params[j]? = some t → args[j]? = some v → Value.okWide Yba.prog W .any base t v := hval0
  have hsz : (DataW.weightsEach Yba.prog (Yba.f3.params.toList ++ Rows.lawS6720BWholeSpec.plain.varTypes Yba.prog) (ds ++ gs)).all (· ≤ reachBytes) = true := hsz0
  have hW' := hW
  obtain ⟨p, q, hA0, hV, rfl, hfz, hnd⟩ := hW
  have hA : DataW.TrodAll enc Yba.prog W 0 (fun _ => true) true Yba.f3.params.toList args.toList ds p := hA0
  rw [Yba.params3] at hA hval hsz
  obtain ⟨v0, vs0, d0, ds0, p0, q0, hargs, rfl, rfl, h0, r0⟩ := trodAll_cons hA
  obtain ⟨v1, vs1, d1, ds1, p1, q1, rfl, rfl, rfl, h1, r1⟩ := trodAll_cons r0
  obtain ⟨rfl, rfl, rfl⟩ := trodAll_nil r1
  obtain rfl : args = #[v0, v1] := by cases args; simp_all
  obtain ⟨rfl, rfl⟩ := trodVars_none hV
  obtain ⟨a0, len0, cap0, rfl⟩ := okWide_slice Yba.underlying22 (hval 0 22 v0 rfl rfl)
  obtain ⟨a1, len1, cap1, rfl⟩ := okWide_slice Yba.underlying23 (hval 1 23 v1 rfl rfl)
  have k0 := h0
  have k1 := h1
  have lt0 : ∀ x ∈ p0, x.block < W.heap.size := by obtain ⟨m, hm⟩ := k0; exact DataW.trod_lt m _ _ _ hm
  have lt1 : ∀ x ∈ p1, x.block < W.heap.size := by obtain ⟨m, hm⟩ := k1; exact DataW.trod_lt m _ _ _ hm
  obtain ⟨D, hO⟩ : ∃ D, ObsAt W a0 len0 D := by
    obtain ⟨fuel, hf⟩ := h0
    refine obs_of (x := (d0, p0)) hf ?_
    intro n hn
    have := List.all_eq_true.1 hsz n (DataW.weights_mem_each (j := 0) (t := 22) (d := d0) rfl rfl n hn)
    simpa using this
  obtain ⟨pv, hp, hp0⟩ : ∃ pv : Nat → Int, InRow W a1 len1 (fun k => .int .u8 (pv k)) ∧ ∀ k, k < len1 → 0 ≤ pv k ∧ pv k < 256 := by
    obtain ⟨fuel, hf⟩ := h1
    obtain ⟨ao, len, cap, f, he, h3, h4, _⟩ := row_of (x := (d1, p1)) Yba.underlying23 Yba.underlying5 cells5 bytes5 (by omega) hf (by
      intro n hn
      have := List.all_eq_true.1 hsz n (DataW.weights_mem_each (j := 1) (t := 23) (d := d1) rfl rfl n hn)
      simpa using this)
    cases he
    exact ⟨f, h3, fun k hk => by have := bounds_u8 (h4 k hk); omega⟩
  clear hA0 hval0
  refine (law_any len0 len1 cap0 cap1 a0 a1 D pv W hO hp hp0).mono fun e W' ⟨he, bel⟩ => ?_
  subst he
  exact ⟨_, rfl, _, _, _, [], _, [], hW', trodAll_mk1 (shut_bool Yba.underlying4 _), trodAll_cons_mk (Below.trod laidOut (by kernel_rfl) (of_decide_eq_true (by kernel_rfl)) k0 bel lt0) (trodAll_cons_mk (Below.trod laidOut (by kernel_rfl) (of_decide_eq_true (by kernel_rfl)) k1 bel lt1) trodAll_mk0), rfl, bel.frame _, fun h => by cases h⟩

theorem proved : Rows.LawS6720BWholeSaid :=
  OpenClaim.holds_of_wide 3 Yba.f3 rfl rfl rfl rfl rfl rfl rfl ⟨rfl, rfl, rfl, rfl, rfl⟩ rfl rfl rfl rfl rfl (by kernel_rfl) Yba.func3 (by kernel_rfl)
    (of_decide_eq_true (by kernel_rfl)) (by unfold Func.isWrapper; first | (rw [if_pos (by decide +kernel)]; kernel_rfl) | (rw [if_neg (by decide +kernel)]; exact ⟨rfl, rfl⟩))
    (fun os started H enc _ => lifted os started H enc)
end Go.Proofs.Ybulkeidm
