/-
  LEMMAS OUTSIDE THE WALKS of LawS6719BWhole: rows of bytes in memory; append from whatever source; the two rows that the law fills side by side.
-/
import Derived.Test.YbulkeicyRows
import Derived.Test.YbulkeicyPlain
import Derived.WalkKit
import Derived.Maps.AppendAt
import Derived.Deep.AppendLies
import Derived.Laws.AppendOwnNone
import Derived.Laws.BytesArg
import Derived.OpenShut
import Derived.Laws.BitsAllLaws
import Derived.Lib.SliceRun
namespace Go.Proofs.Ybulkeicy
open Go.RowKit

theorem Yba.info5 : (Yba.prog.info? 5).map (fun i => (i.zero, i.size, i.bytes)) = some (some (.int .u8 0), 1, 1) := by kernel_rfl

/-- Numbers, as the values of bytes. -/
def bs (l : List Int) : List Value := l.map (Value.int .u8)
theorem bs_append (a b : List Int) : bs (a ++ b) = bs a ++ bs b := by simp [bs]
theorem bs_len (a : List Int) : (bs a).length = a.length := by simp [bs]
theorem bs_one (l : List Int) : ∀ u ∈ bs l, u.oneCell' = true := ints_oneCell .u8 l

/-- A slice of bytes, nil or not, whose elements are zs. -/
structure PRow (w : World) (ao : Option Addr) (l c : Nat) (zs : List Int) : Prop where
  len : zs.length = l
  le : l ≤ c
  none : ao = none → c = 0
  cell : ∀ ad, ao = some ad → ∀ j, j < l → w.cell? (ad.add j) = some (.int .u8 (zs.getD j 0))

theorem lt_of_cell {w : World} {a : Addr} {v : Value} (h : w.cell? a = some v) : a.block < w.heap.size := by
  rcases Nat.lt_or_ge a.block w.heap.size with h1 | h1
  · exact h1
  · have : w.heap[a.block]? = Option.none := Array.getElem?_eq_none h1
    simp [World.cell?, this] at h

theorem block_add (a : Addr) (j : Nat) : (a.add j).block = a.block := by
  unfold Addr.add; split <;> rfl

theorem PRow.below {w w' : World} {ao : Option Addr} {l c : Nat} {zs : List Int} (h : PRow w ao l c zs) (hb : Below w.heap.size w w') : PRow w' ao l c zs :=
  ⟨h.len, h.le, h.none, fun ad had j hj => by
    have h1 := h.cell ad had j hj
    rw [hb.cell (p := ad.add j) (lt_of_cell h1)]
    exact h1⟩

theorem PRow.cut {w : World} {ao : Option Addr} {l c k : Nat} {zs : List Int} (h : PRow w ao l c zs) (hk : k ≤ l) : PRow w ao k c (zs.take k) :=
  ⟨by rw [List.length_take, h.len]; omega, by have := h.le; omega, h.none, fun ad had j hj => by
    rw [h.cell ad had j (by omega)]
    simp only [List.getD_eq_getElem?_getD, List.getElem?_take, if_pos hj]⟩

/-- The block at which a slice begins. -/
def ownB (ao : Option Addr) : Option Nat := ao.map Addr.block
theorem ownB_eq (ao : Option Addr) (n c : Nat) : Value.ownBlock (.slice ao n c) = ownB ao := by cases ao <;> rfl

theorem own_form {w : World} {base : Nat} {v : Value} {n : Nat} {xs : List Value} (h : w.ownsRow base 5 1 v n xs) : ∃ ao cap, v = .slice ao n cap := by
  rcases h.2 with ⟨hv, hn⟩ | ⟨g, cap, _, hv, _⟩
  · exact ⟨Option.none, 0, by rw [hv, hn]⟩
  · exact ⟨_, cap, hv⟩

/-- 'append(v, p...)': v nil or the call's own; p nil, empty, or not. -/
theorem wpList_append_prow {w : World} {ops : Array Oper} {rest : List Oper} {o : Oper} {a : Act} {Q : Exit → Act → World → Prop} (hgd : o.guard = none) (s x : Operand)
    (ho : o.op = .call { callee := .builtin .append, args := #[s, x], argTypes := #[24, 24] })
    (base : Nat) (ao : Option Addr) (n cap : Nat) (xs : List Int) (hs : a.eval s = .slice ao n cap) (hown : w.ownsRow base 5 1 (.slice ao n cap) n (bs xs))
    (ao2 : Option Addr) (m c : Nat) (zs : List Int) (hx : a.eval x = .slice ao2 m c) (hp : PRow w ao2 m c zs)
    (h63 : n + m ≤ 140737488355328) (hbase : base ≤ w.heap.size)
    (h : ∀ ao' cap' w', w'.ownsRow base 5 1 (.slice ao' (n + m) cap') (n + m) (bs (xs ++ zs)) → w.grownBy w' (ownB ao) → (ownB ao' = ownB ao ∨ ownB ao' = some w.heap.size) → wpList Yba.prog ops Q rest (a.put o.dst (.slice ao' (n + m) cap')) w') :
    wpList Yba.prog ops Q (o :: rest) a w := by
  obtain ⟨i0, hi, hz0, hz1, hz2⟩ := info_parts Yba.info5
  cases ao2 with
  | none =>
    have hc := hp.none rfl
    have hm : m = 0 := by have := hp.le; omega
    subst hc hm
    have hz : zs = [] := List.eq_nil_of_length_eq_zero hp.len
    subst hz
    exact wpList_append_own_none hgd s x 24 ho base 5 i0 1 Yba.underlying24 hi _ n (bs xs) hs hown hx
      (h ao cap w (by simpa using hown) (World.grownBy.refl _ _) (.inl rfl))
  | some ad =>
    refine wpList_append_own_at w hgd s x 24 ho base 5 i0 (.int .u8 0) 1 1 Yba.underlying24 hi hz0 hz1 hz2 rfl (by decide) _ n (bs xs) hs hown ad m c (bs zs) hx (by rw [bs_len, hp.len]; omega) ?_ (bs_one zs) (by unfold maxLen; omega) (by omega) hbase ?_
    · intro j u hj
      have hj' : j < zs.length := by
        have := (List.getElem?_eq_some_iff.1 hj).1
        simpa [bs] using this
      rw [hp.cell ad rfl j (by rw [← hp.len]; exact hj')]
      simp [bs, hj'] at hj
      rw [← hj]
      simp [hj']
    · intro v' w' hown' hgrow _ hat
      obtain ⟨ao', cap', rfl⟩ := own_form hown'
      rw [ownB_eq] at hgrow
      rw [ownB_eq, ownB_eq] at hat
      exact h ao' cap' w' (by rw [bs_append]; exact hown') hgrow hat

/-- The two rows that the law fills: recs and flat, in blocks of their own, apart from one another. -/
structure Two (B : Nat) (w wr : World) (ao : Option Addr) (c : Nat) (xs : List Int) (ao2 : Option Addr) (c2 : Nat) (ys : List Int) : Prop where
  one : wr.ownsRow B 5 1 (.slice ao xs.length c) xs.length (bs xs)
  two : wr.ownsRow B 5 1 (.slice ao2 ys.length c2) ys.length (bs ys)
  apart : ownB ao = none ∨ ownB ao ≠ ownB ao2
  bel : Below B w wr

theorem Two.symm {B : Nat} {w wr : World} {ao ao2 : Option Addr} {c c2 : Nat} {xs ys : List Int} (h : Two B w wr ao c xs ao2 c2 ys) : Two B w wr ao2 c2 ys ao c xs :=
  ⟨h.two, h.one, by
    rcases h.apart with h1 | h1
    · by_cases h2 : ownB ao2 = none
      · exact .inl h2
      · exact .inr (by rw [h1]; exact h2)
    · exact .inr (Ne.symm h1), h.bel⟩

theorem Two.alloc {B : Nat} {w wr : World} {ao ao2 : Option Addr} {c c2 : Nat} {xs ys : List Int} (h : Two B w wr ao c xs ao2 c2 ys) (hB : B ≤ wr.heap.size) (o : Obj) : Two B w (wr.alloc o) ao c xs ao2 c2 ys :=
  ⟨h.one.alloc o, h.two.alloc o, h.apart, h.bel.alloc hB o⟩

/-- Behind an append onto the first. -/
theorem Two.step {B : Nat} {w wr w1 : World} {ao ao2 ao' : Option Addr} {c c2 c' m n : Nat} {xs ys zs : List Int} (h : Two B w wr ao c xs ao2 c2 ys) (hB : B ≤ wr.heap.size) (hn : n = xs.length) (hm : m = zs.length)
    (hown : w1.ownsRow B 5 1 (.slice ao' (n + m) c') (n + m) (bs (xs ++ zs))) (hgrow : wr.grownBy w1 (ownB ao)) (hat : ownB ao' = ownB ao ∨ ownB ao' = some wr.heap.size) :
    Two B w w1 ao' c' (xs ++ zs) ao2 c2 ys := by
  subst hm hn
  have h2lt : ∀ k, ownB ao2 = some k → k < wr.heap.size := fun k hk => (h.two.lt k (by rw [ownB_eq]; exact hk)).2
  refine ⟨by rw [List.length_append]; exact hown, h.two.kept hgrow ?_, ?_, h.bel.grown hgrow hB ?_⟩
  · rw [ownB_eq]
    rcases h.apart with h1 | h1
    · by_cases h2 : ownB ao2 = none
      · exact .inl h2
      · exact .inr (by rw [h1]; exact h2)
    · exact .inr (Ne.symm h1)
  · rcases hat with h1 | h1
    · rw [h1]; exact h.apart
    · right
      rw [h1]
      intro e
      have := h2lt _ e.symm
      omega
  · intro k hk
    exact (h.one.lt k (by rw [ownB_eq]; exact hk)).1

theorem Two.size {B : Nat} {w wr : World} {ao ao2 : Option Addr} {c c2 : Nat} {xs ys : List Int} (h : Two B w wr ao c xs ao2 c2 ys) (hB : B ≤ w.heap.size) : B ≤ wr.heap.size := Nat.le_trans hB h.bel.size

/-- A header, laid in a new block. -/
theorem prow_hdr (w : World) (m : Nat) : PRow (w.alloc (.cells #[.int .u8 22, .int .u8 3, .int .u8 1, .int .u8 ((m : Int) / 256), .int .u8 ((m : Int) % 256)] 5)) (some ⟨w.heap.size, 0, none⟩) 5 5 (hdr m) := by
  refine ⟨rfl, Nat.le_refl _, (fun h => by cases h), fun ad had j hj => ?_⟩
  cases had
  have hb : (w.alloc (.cells #[.int .u8 22, .int .u8 3, .int .u8 1, .int .u8 ((m : Int) / 256), .int .u8 ((m : Int) % 256)] 5)).heap[w.heap.size]? = some (.cells #[.int .u8 22, .int .u8 3, .int .u8 1, .int .u8 ((m : Int) / 256), .int .u8 ((m : Int) % 256)] 5) := heap_alloc_new w _
  refine World.news_of_block hb j _ ?_
  match j, hj with
  | 0, _ => rfl
  | 1, _ => rfl
  | 2, _ => rfl
  | 3, _ => rfl
  | 4, _ => rfl

/-- A row that the call owns, as a source. -/
theorem own_prow {w : World} {B : Nat} {ao : Option Addr} {n c : Nat} {xs : List Int} (h : w.ownsRow B 5 1 (.slice ao n c) n (bs xs)) : PRow w ao n c xs := by
  have hl : xs.length = n := by have := h.1; rw [bs_len] at this; omega
  refine ⟨hl, ?_, ?_, ?_⟩
  · rcases h.2 with ⟨hv, hn⟩ | ⟨g, cap, _, hv, _, _, hc, _⟩
    · simp at hv; omega
    · simp at hv; omega
  · intro hao
    subst hao
    rcases h.2 with ⟨hv, hn⟩ | ⟨g, cap, _, hv, _⟩
    · simp at hv; omega
    · simp at hv
  · intro ad had j hj
    subst had
    rcases h.2 with ⟨hv, _⟩ | ⟨g, cap, cur, hv, _⟩
    · simp at hv
    · simp only [Value.slice.injEq, Option.some.injEq] at hv
      obtain ⟨rfl, _, _⟩ := hv
      have hj' : j < xs.length := by omega
      exact h.cells (g := g) rfl j _ (by simp [bs, hj'])

/-- What 'string(p)' gives. -/
theorem prow_string {w : World} {ao : Option Addr} {l c : Nat} {zs : List Int} (h : PRow w ao l c zs) : (convert 24 9 (.slice ao l c)).run Yba.prog w = .ok (.string (strOfNums zs)) w := by
  cases ao with
  | none =>
    have hl : l = 0 := by have := h.none rfl; have := h.le; omega
    have hz : zs = [] := List.eq_nil_of_length_eq_zero (by rw [h.len, hl])
    subst hz
    exact run_convert_bytes_nil w 24 5 Yba.underlying24 Yba.underlying5 l c 9 Yba.underlying9
  | some ad =>
    rcases Nat.eq_zero_or_pos l with hl | hl
    · have hz : zs = [] := List.eq_nil_of_length_eq_zero (by rw [h.len, hl])
      subst hz hl
      rw [run_convert_bytes_string w 24 9 5 (some ad) 0 c Yba.underlying24 Yba.underlying5 Yba.underlying9]
      have := run_bytesToString (P := Yba.prog) w ad 0 c [] (by simp [loadCells, loadCellsFrom])
      exact this
    · obtain ⟨b, off, rfl, hc⟩ := ints_at (w := w) (a := ad) (k := .u8) (zs := zs) (fun i hi => h.cell ad rfl i (by rw [← h.len]; exact hi)) (by rw [h.len]; exact hl)
      exact run_convert_bytes_arg w 24 5 Yba.underlying24 Yba.underlying5 b off l c zs h.len (fun i hi => hc i (by rw [h.len]; exact hi)) 9 Yba.underlying9

/-- 'hi<<8 | lo' of two bytes. -/
theorem or_256 (a b : Nat) (ha : a < 256) (hb : b < 256) : bits .or .i64 ((a : Int) * 256) (b : Int) = (a : Int) * 256 + (b : Int) := by
  have e : ((a : Int) * 256) = ((a * 256 : Nat) : Int) := by omega
  rw [e]
  show IntKind.i64.wrap ((BitVec.ofInt 64 ((a * 256 : Nat) : Int) ||| BitVec.ofInt 64 (b : Int)).toNat : Int) = _
  rw [BitVec.toNat_or, BitVec.ofInt_natCast, BitVec.ofInt_natCast, BitVec.toNat_ofNat, BitVec.toNat_ofNat, Nat.mod_eq_of_lt (by omega), Nat.mod_eq_of_lt (by omega)]
  have h := Nat.shiftLeft_add_eq_or_of_lt (i := 8) (b := b) (by omega) a
  rw [Nat.shiftLeft_eq] at h
  have h' : a * 256 ||| b = a * 256 + b := h.symm
  rw [h']
  simp [IntKind.wrap, IntKind.bits, IntKind.signed]
  omega
theorem or_256' (a b : Int) (h1 : 0 ≤ a) (h2 : a ≤ 255) (h3 : 0 ≤ b) (h4 : b ≤ 255) : bits .or .i64 (a * 256) b = a * 256 + b := by
  obtain ⟨A, rfl⟩ := Int.eq_ofNat_of_zero_le h1
  obtain ⟨B, rfl⟩ := Int.eq_ofNat_of_zero_le h3
  exact or_256 A B (by omega) (by omega)
/-- A byte with all its bits turned is another byte. -/
theorem xor_255 (x : Int) (h1 : 0 ≤ x) (h2 : x ≤ 255) : (bits .xor .u8 x 255 != x) = true := by
  rw [u8_xor x 255 h1 (by omega) (by decide) (by decide)]
  obtain ⟨A, rfl⟩ := Int.eq_ofNat_of_zero_le h1
  have key : ∀ a : Fin 256, a.val ^^^ 255 ≠ a.val := by decide +kernel
  have := key ⟨A, by omega⟩
  simp only [bne_iff_ne, Int.toNat_natCast]
  intro e
  apply this
  have e' : (A ^^^ (255 : Int).toNat : Nat) = A := Int.ofNat_inj.1 e
  exact e'

end Go.Proofs.Ybulkeicy
