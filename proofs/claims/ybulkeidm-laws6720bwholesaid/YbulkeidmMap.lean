/-
  MAPS WHOSE KEYS ARE POINTERS (to heads of blocks), and whose elements are such pointers: the look-up and the store of a new key.
-/
import Derived.Test.YbulkeidmMem
import Derived.LaidEqlPtr
import Derived.Maps.OwnOps
import Derived.Maps.OwnSet
namespace Go.Proofs.Ybulkeidm
open Go.RowKit

/-- Block mb is a map that was handed the entries E, each key but once, in this order. -/
def PMap (w : World) (mb : Nat) (E : List (Nat × Nat)) : Prop :=
  ∃ (es : Array MapEntry) (clock : Nat), w.heap[mb]? = some (.map es clock) ∧ es.toList.map (fun e => (e.key, e.val)) = E.map fun p => (ptr p.1, ptr p.2)

/-- A block of cells. -/
def Cells (w : World) (o : Nat) : Prop := ∃ cs t, w.heap[o]? = some (.cells cs t (0, 0))

theorem equal_ptr (w : World) (a b : Nat) (ha : Cells w a) (hb : Cells w b) : (Op.equal 50 (ptr a) (ptr b)).run Yba.prog w = .ok (decide (a = b)) w := by
  have hp : Yba.prog.underlying 50 = some (.pointer 65) := Yba.underlying50
  by_cases e : a = b
  · subst e
    have h : ∀ d : Nat, (Op.equalIn (d + 1) 50 (ptr a) (ptr a)).run Yba.prog w = .ok true w := fun d => by
      simp [Op.equalIn, run_underlying hp, run_sameAddr_same]
    simp [Op.equal, Op.maxDepth, h 9999]
  · obtain ⟨ca, ta, ha⟩ := ha
    obtain ⟨cb, tb, hb⟩ := hb
    have h : ∀ d : Nat, (Op.equalIn (d + 1) 50 (ptr a) (ptr b)).run Yba.prog w = .ok false w := fun d => by
      simp [Op.equalIn, run_underlying hp, run_sameAddr_other w (a := ⟨a, 0, none⟩) (b := ⟨b, 0, none⟩) (by intro h9; exact e (congrArg Addr.block h9)) ha hb, Yba.sizeOf65]
    simp [Op.equal, Op.maxDepth, h 9999, e]

theorem checkKey_ptr (w : World) (emp : Bool) (x : Option Addr) : (Instr.checkKey emp 10000 50 (.pointer x)).run Yba.prog w = .ok () w := by
  have hp : Yba.prog.underlying 50 = some (.pointer 65) := Yba.underlying50
  have h : ∀ d : Nat, (Instr.checkKey emp (d + 1) 50 (.pointer x)).run Yba.prog w = .ok () w := fun d => by
    simp [Instr.checkKey, run_underlying hp]
  exact h 9999

theorem equal_nil (w : World) (b : Nat) : (Op.equal 50 (.pointer none) (ptr b)).run Yba.prog w = .ok false w := by
  have hp : Yba.prog.underlying 50 = some (.pointer 65) := Yba.underlying50
  have h : ∀ d : Nat, (Op.equalIn (d + 1) 50 (.pointer none) (ptr b)).run Yba.prog w = .ok false w := fun d => by
    simp [Op.equalIn, run_underlying hp]
  simp [Op.equal, Op.maxDepth, h 9999]

theorem findAsking_ptr (w : World) (o : Nat) (ho : Cells w o) : ∀ (es : List MapEntry) (E : List (Nat × Nat)) (i : Nat), es.map (fun e => (e.key, e.val)) = E.map (fun p => (ptr p.1, ptr p.2)) → (∀ p ∈ E, Cells w p.1) →
    ∃ r, (Instr.findAsking 50 (ptr o) es i).run Yba.prog w = .ok r w ∧ r.map (·.2) = (E.lookup o).map ptr
  | [], [], i, _, _ => ⟨none, by simp [Instr.findAsking], by simp⟩
  | [], _ :: _, i, h, _ => by simp at h
  | _ :: _, [], i, h, _ => by simp at h
  | e :: es, p :: E, i, h, hE => by
    simp only [List.map_cons, List.cons.injEq, Prod.mk.injEq] at h
    obtain ⟨⟨hk, hv⟩, hr⟩ := h
    have h1 := equal_ptr w o p.1 ho (hE p (by simp))
    obtain ⟨r, h2, h3⟩ := findAsking_ptr w o ho es E (i + 1) hr (fun q hq => hE q (by simp [hq]))
    by_cases ee : o = p.1
    · refine ⟨some (i, e.val), ?_, ?_⟩
      · rw [Instr.findAsking, hk]
        simp only [ee] at h1
        simp [h1, ee]
      · obtain ⟨p1, p2⟩ := p
        simp only at ee hv
        subst ee
        simp [List.lookup, hv]
    · refine ⟨r, ?_, ?_⟩
      · rw [Instr.findAsking, hk]
        simp [h1, ee, h2]
      · obtain ⟨p1, p2⟩ := p
        simp only at ee
        rw [h3]
        have e2 : (o == p1) = false := by simpa using ee
        simp [List.lookup, e2]

theorem findAsking_nil (w : World) : ∀ (es : List MapEntry) (E : List (Nat × Nat)) (i : Nat), es.map (fun e => (e.key, e.val)) = E.map (fun p => (ptr p.1, ptr p.2)) →
    (Instr.findAsking 50 (.pointer none) es i).run Yba.prog w = .ok none w
  | [], _, i, _ => by simp [Instr.findAsking]
  | _ :: _, [], i, h => by simp at h
  | e :: es, p :: E, i, h => by
    simp only [List.map_cons, List.cons.injEq, Prod.mk.injEq] at h
    obtain ⟨⟨hk, hv⟩, hr⟩ := h
    rw [Instr.findAsking, hk]
    simp [equal_nil w p.1, findAsking_nil w es E (i + 1) hr]

/-- What the map holds at o, as a Go pointer. -/
abbrev optPtr (x : Option Nat) : Value := match x with | some c => ptr c | none => .pointer none

theorem findKey_ptr (w : World) (o : Nat) (ho : Cells w o) (es : List MapEntry) (E : List (Nat × Nat)) (h : es.map (fun e => (e.key, e.val)) = E.map (fun p => (ptr p.1, ptr p.2))) (hE : ∀ p ∈ E, Cells w p.1) :
    ∃ r, (Instr.findKey 50 (ptr o) es).run Yba.prog w = .ok r w ∧ r.map (·.2) = (E.lookup o).map ptr := by
  have hp : Yba.prog.underlying 50 = some (.pointer 65) := Yba.underlying50
  cases es with
  | nil =>
    cases E with
    | nil => exact ⟨none, by simp [Instr.findKey, run_underlying hp, Instr.findNow], by simp⟩
    | cons _ _ => simp at h
  | cons e es =>
    obtain ⟨r, h1, h2⟩ := findAsking_ptr w o ho (e :: es) E 0 h hE
    exact ⟨r, by simp [Instr.findKey, run_underlying hp, Instr.findNow, Instr.sameNow, h1], h2⟩

theorem findKey_nil (w : World) (es : List MapEntry) (E : List (Nat × Nat)) (h : es.map (fun e => (e.key, e.val)) = E.map (fun p => (ptr p.1, ptr p.2))) :
    (Instr.findKey 50 (.pointer none) es).run Yba.prog w = .ok none w := by
  have hp : Yba.prog.underlying 50 = some (.pointer 65) := Yba.underlying50
  cases es with
  | nil => simp [Instr.findKey, run_underlying hp, Instr.findNow]
  | cons e es =>
    have h1 := findAsking_nil w (e :: es) E 0 h
    simp [Instr.findKey, run_underlying hp, Instr.findNow, Instr.sameNow, h1]

theorem PMap.lookup {w : World} {mb : Nat} {E : List (Nat × Nat)} (h : PMap w mb E) (o : Nat) (ho : Cells w o) (hE : ∀ p ∈ E, Cells w p.1) :
    (Instr.lookup 32 (.map (some mb)) (ptr o) false).run Yba.prog w = .ok (optPtr (E.lookup o)) w := by
  obtain ⟨es, clock, hh, he⟩ := h
  have hm : Yba.prog.underlying 32 = some (.map 50 66) := Yba.underlying32
  obtain ⟨r, h1, h2⟩ := findKey_ptr w o ho es.toList E he hE
  cases r with
  | none =>
    have h3 : E.lookup o = none := by
      cases hl : E.lookup o with
      | none => rfl
      | some x => rw [hl] at h2; simp at h2
    rw [h3]
    simp [Instr.lookup, run_underlying hm, MapKept.run_getObj_map hh, checkKey_ptr, h1, Yba.zeroValue66]
  | some z =>
    obtain ⟨i, v⟩ := z
    cases hl : E.lookup o with
    | none => rw [hl] at h2; simp at h2
    | some x =>
      rw [hl] at h2
      simp at h2
      simp [Instr.lookup, run_underlying hm, MapKept.run_getObj_map hh, checkKey_ptr, h1, h2]

theorem PMap.lookup_nil {w : World} {mb : Nat} {E : List (Nat × Nat)} (h : PMap w mb E) :
    (Instr.lookup 32 (.map (some mb)) (.pointer none) false).run Yba.prog w = .ok (.pointer none) w := by
  obtain ⟨es, clock, hh, he⟩ := h
  have hm : Yba.prog.underlying 32 = some (.map 50 66) := Yba.underlying32
  have h1 := findKey_nil w es.toList E he
  simp [Instr.lookup, run_underlying hm, MapKept.run_getObj_map hh, checkKey_ptr, h1, Yba.zeroValue66]

theorem PMap.block {w w' : World} {mb : Nat} {E : List (Nat × Nat)} (h : PMap w mb E) (e : w'.heap[mb]? = w.heap[mb]?) : PMap w' mb E := by
  obtain ⟨es, clock, hh, he⟩ := h
  exact ⟨es, clock, e.trans hh, he⟩
theorem PMap.lt {w : World} {mb : Nat} {E : List (Nat × Nat)} (h : PMap w mb E) : mb < w.heap.size := by
  obtain ⟨es, clock, hh, _⟩ := h
  rcases Nat.lt_or_ge mb w.heap.size with h1 | h1
  · exact h1
  · rw [Array.getElem?_eq_none h1] at hh; cases hh

/-- 'm[o] = c', o a new key. -/
theorem PMap.update {w : World} {mb : Nat} {E : List (Nat × Nat)} (h : PMap w mb E) (o c : Nat) (ho : Cells w o) (hE : ∀ p ∈ E, Cells w p.1) (hnew : E.lookup o = none) :
    ∃ w', (Instr.mapUpdate 32 (.map (some mb)) (ptr o) (ptr c)).run Yba.prog w = .ok () w' ∧ PMap w' mb (E ++ [(o, c)]) ∧ w.grownBy w' (some mb) := by
  have hlt := h.lt
  obtain ⟨es, clock, hh, he⟩ := h
  have hm : Yba.prog.underlying 32 = some (.map 50 66) := Yba.underlying32
  obtain ⟨r, h1, h2⟩ := findKey_ptr w o ho es.toList E he hE
  cases r with
  | some z => rw [hnew] at h2; simp at h2
  | none =>
    refine ⟨{ w with heap := w.heap.setIfInBounds mb (.map (es.push ⟨ptr o, ptr c, clock⟩) (clock + 1)) }, ?_, ⟨es.push ⟨ptr o, ptr c, clock⟩, clock + 1, ?_, ?_⟩, ⟨rfl, rfl, rfl, by simp, ?_⟩⟩
    · simp [Instr.mapUpdate, run_underlying hm, MapKept.run_getObj_map hh, checkKey_ptr, h1, MapKept.run_setObj_map _ hh, Result.andThen]
    · simp [hlt]
    · simp [he]
    · intro k hk hne
      simp only [Array.getElem?_setIfInBounds]
      rw [if_neg (fun e => hne (by rw [e]))]

theorem PMap.len {w : World} {mb : Nat} {E : List (Nat × Nat)} (h : PMap w mb E) (ty : TypeId) : (Builtin.len_ #[32] ty #[.map (some mb)]).run Yba.prog w = .ok (.int .i64 (E.length : Nat)) w := by
  obtain ⟨es, clock, hh, he⟩ := h
  have hm : Yba.prog.underlying 32 = some (.map 50 66) := Yba.underlying32
  have e : es.size = E.length := by have := congrArg List.length he; simpa using this
  simp [Builtin.len_, run_underlying hm, MapKept.run_getObj_map hh, goInt, Result.andThen, e]
end Go.Proofs.Ybulkeidm
