/-
  THE ROW of LawS6719BWhole.
-/
import Derived.Test.YbulkeicyLaw
import Derived.ProofKit
import Derived.OpenShut
import Derived.SizedLaws
import Derived.Deep.Matrix
namespace Go.Proofs.Ybulkeicy
open Go.ChangeShapes Go.WideShapes Go.ChangeAt Go.RowKit

theorem own : ownKnob Yba.prog.godebug = none := by kernel_rfl
theorem laidOut : laidOutB Yba.prog = true := by kernel_rfl
theorem bytes24 : Yba.prog.bytesOf 24 = 24 := by kernel_rfl
theorem bytes5 : Yba.prog.bytesOf 5 = 1 := by kernel_rfl
theorem cells24 : Yba.prog.cellsOf 24 = 1 := by kernel_rfl
theorem cells5 : Yba.prog.cellsOf 5 = 1 := by kernel_rfl

theorem mem_weightsAll {H : Type} {P : Program} {e : TypeId} : ∀ {ds : List (DataW H)} {d : DataW H} {n : Nat}, d ∈ ds → n ∈ d.weights P e → n ∈ DataW.weightsAll P e ds
  | x :: ds, d, n, hd, hn => by
    rw [DataW.weightsAll, List.mem_append]
    rcases List.mem_cons.1 hd with rfl | h
    · exact .inl hn
    · exact .inr (mem_weightsAll h hn)

/-- The argument, opened. -/
theorem outer_of {H : Type} {enc : TypeId × Value → H} {W : World} {fuel : Nat} {a0 : Option Addr} {len cap : Nat} {x : DataW H × List MemPlace}
    (h : DataW.trod enc Yba.prog W 0 (fun _ => true) true fuel 22 [.slice a0 len cap] = some x) (hw : ∀ n ∈ x.1.weights Yba.prog 22, n ≤ reachBytes) :
    ∃ L, Outer W a0 len L ∧ len ≤ 5864062014635 ∧ ∀ p ∈ L, ∀ z ∈ p, 0 ≤ z ∧ z ≤ 255 := by
  rcases Deep.open_int_rows Yba.underlying22 Yba.underlying24 Yba.underlying5 cells24 cells5 h with ⟨hcs, _⟩ | ⟨a, len', cap', A, L, C, Z, hcs, _, hl, _, hx, hr⟩
  · simp at hcs
    obtain ⟨rfl, rfl, rfl⟩ := hcs
    exact ⟨[], ⟨rfl, fun i hi => by simp at hi⟩, by omega, by simp⟩
  · simp at hcs
    obtain ⟨rfl, rfl, rfl⟩ := hcs
    subst hx
    have hout : cap * 24 ≤ reachBytes := by
      have := hw ((len + (cap - len)) * 24) (by simp [DataW.weights, Yba.underlying22, bytes24])
      have e : len + (cap - len) = cap := by omega
      rw [e] at this
      exact this
    have hin : ∀ r, r < len → L r ≤ 140737488355328 := by
      intro r hrl
      obtain ⟨_, h1, _, h3, _, h5, _⟩ := hr r (by omega)
      cases hA : A r with
      | none => have := h5 hA; omega
      | some ad =>
        have := hw (C r) (by
          simp only [DataW.weights, Yba.underlying22]
          refine List.mem_cons_of_mem _ (List.mem_append.2 (.inl ?_))
          refine mem_weightsAll (d := Deep.intRow .u8 (A r) (L r) (Z r)) (List.mem_map.2 ⟨r, List.mem_range.2 hrl, rfl⟩) ?_
          rw [hA]
          simp only [Deep.intRow, DataW.weights, Yba.underlying24, bytes5, lits, List.length_map, List.length_take, List.length_drop, h3]
          refine List.mem_cons.2 (.inl ?_)
          omega)
        unfold reachBytes at this
        omega
    refine ⟨(List.range len).map fun r => (Z r).take (L r), ⟨by simp, ?_⟩, by unfold reachBytes at hout; omega, ?_⟩
    · intro i hi
      have hi' : i < len := by simpa using hi
      obtain ⟨b, off, spot⟩ := a
      have hspot : spot = none := by simpa [Addr.add] using World.cell?_spot (hr 0 (by omega)).1
      subst hspot
      obtain ⟨h0, h1, h2, h3, h4, h5, h6⟩ := hr i (by omega)
      rw [Go.WideShapes.add_plain] at h0
      refine ⟨b, off, rfl, A i, L i, C i, h0, ?_, hin i hi'⟩
      simp only [List.getElem_map, List.getElem_range]
      refine ⟨by rw [List.length_take, h3]; omega, h1, h5, fun ad had j hj => ?_⟩
      rw [(h6 ad had).2 j (by omega)]
      simp only [List.getD_eq_getElem?_getD, List.getElem?_take, if_pos hj]
    · intro p hp z hz
      obtain ⟨r, hr', rfl⟩ := List.mem_map.1 hp
      have hrl := List.mem_range.1 hr'
      obtain ⟨_, _, _, _, h4, _, _⟩ := hr r (by omega)
      have := bounds_u8 (h4 z (List.mem_of_mem_take hz))
      omega

set_option maxRecDepth 100000 in
theorem lifted (os : Os) (started : os.Started) (H : Type) (enc : TypeId × Value → H) :
    ReturnsInHanded {} Yba.checked os 3 .any (Rows.lawS6719BWholeSpec.pre6 enc Yba.prog Yba.f3 Rows.lawS6719BWholeRow.domain false) (Rows.lawS6719BWholeSpec.post enc Yba.prog Yba.f3 false true false false) := by
  refine returnsInHanded_of_change_sized (C := Yba.checked) own started (by kernel_rfl) Yba.func3
    (ChangeSpec.witness6 (enc := enc) (C := Yba.checked) false ⟨#[], #[.slice none 0 0, .int .u64 0], []⟩ 8 (by kernel_rfl) (by kernel_rfl) (by kernel_rfl) (by kernel_rfl)) ?_
  intro W base args ds gs before hval0 hW hcnd hsz0 _
  have hval : ∀ (j : Nat) t v, Yba.f3.params[j]? = some t → args[j]? = some v → Value.okWide Yba.prog W .any base t v := hval0
  have hsz : (DataW.weightsEach Yba.prog (Yba.f3.params.toList ++ Rows.lawS6719BWholeSpec.plain.varTypes Yba.prog) (ds ++ gs)).all (· ≤ reachBytes) = true := hsz0
  have hW' := hW
  obtain ⟨p, q, hA0, hV, rfl, hfz, hnd⟩ := hW
  have hA : DataW.TrodAll enc Yba.prog W 0 (fun _ => true) true Yba.f3.params.toList args.toList ds p := hA0
  rw [Yba.params3] at hA hval hsz
  obtain ⟨v0, vs0, d0, ds0, p0, q0, hargs, rfl, rfl, h0, r0⟩ := trodAll_cons hA
  obtain ⟨v1, vs1, d1, ds1, p1, q1, rfl, rfl, rfl, h1, r1⟩ := trodAll_cons r0
  obtain ⟨rfl, rfl, rfl⟩ := trodAll_nil r1
  obtain rfl : args = #[v0, v1] := by cases args; simp_all
  obtain ⟨rfl, rfl⟩ := trodVars_none hV
  obtain ⟨a0, len0, cap0, rfl⟩ := okWide_slice Yba.underlying22 (hval 0 22 v0 rfl rfl)
  have k0 := h0
  have lt0 : ∀ x ∈ p0, x.block < W.heap.size := by obtain ⟨m, hm⟩ := k0; exact DataW.trod_lt m _ _ _ hm
  obtain ⟨a1, rfl, rfl, rfl, w1⟩ := open_int Yba.underlying23 (hval 1 23 v1 rfl rfl) h1
  obtain ⟨L, hO, hn, hb⟩ : ∃ L, Outer W a0 len0 L ∧ len0 ≤ 5864062014635 ∧ ∀ p ∈ L, ∀ z ∈ p, 0 ≤ z ∧ z ≤ 255 := by
    obtain ⟨fuel, hf⟩ := h0
    refine outer_of (x := (d0, p0)) hf ?_
    intro n hn
    have := List.all_eq_true.1 hsz n (DataW.weights_mem_each (j := 0) (t := 22) (d := d0) rfl rfl n hn)
    simpa using this
  obtain ⟨l1, u1⟩ := bounds_u64 w1
  clear hA0 hval0
  refine (law_any a0 len0 cap0 L a1 W hO hn hb l1 u1).mono fun e W' ⟨he, bel⟩ => ?_
  subst he
  exact ⟨_, rfl, _, _, _, [], _, [], hW', trodAll_mk1 (shut_bool Yba.underlying4 _), trodAll_cons_mk (Below.trod laidOut (by kernel_rfl) (of_decide_eq_true (by kernel_rfl)) k0 bel lt0) (trodAll_cons_mk (shut_int Yba.underlying23 w1) trodAll_mk0), rfl, bel.frame _, fun h => by cases h⟩

theorem proved : Rows.LawS6719BWholeSaid :=
  OpenClaim.holds_of_wide 3 Yba.f3 rfl rfl rfl rfl rfl rfl rfl ⟨rfl, rfl, rfl, rfl, rfl⟩ rfl rfl rfl rfl rfl (by kernel_rfl) Yba.func3 (by kernel_rfl)
    (of_decide_eq_true (by kernel_rfl)) (by unfold Func.isWrapper; first | (rw [if_pos (by decide +kernel)]; kernel_rfl) | (rw [if_neg (by decide +kernel)]; exact ⟨rfl, rfl⟩))
    (fun os started H enc _ => lifted os started H enc)
end Go.Proofs.Ybulkeicy
