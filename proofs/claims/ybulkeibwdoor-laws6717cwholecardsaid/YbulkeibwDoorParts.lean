/-
  LEMMAS OUTSIDE THE WALK for LawS6717CWhole: what a round of either loop does to the call's own memory.
-/
import Derived.Test.YbulkeibwDoorRows
import Derived.Test.YbulkeibwDoorPlain
import Derived.WalkKit
import Derived.Deep.AppendLies
namespace Go.Proofs.YbulkeibwDoor
open Go.RowKit

theorem Ybad.info5 : (Ybad.prog.info? 5).map (fun i => (i.zero, i.size, i.bytes)) = some (some (.int .u8 0), 1, 1) := by kernel_rfl

/-- The bytes of a string, as numbers. -/
def nats (s : ByteArray) : List Nat := s.data.toList.map UInt8.toNat
theorem nats_len (s : ByteArray) : (nats s).length = s.size := by simp [nats]
theorem nats_get (s : ByteArray) (k : Nat) (h : k < s.size) (h' : k < (nats s).length) : (nats s)[k]'h' = (s[k]'h).toNat := by
  simp [nats]; rfl
theorem nats_lt (s : ByteArray) : ∀ x ∈ nats s, x < 256 := by
  intro x hx
  simp only [nats, List.mem_map] at hx
  obtain ⟨b, _, rfl⟩ := hx
  exact b.toNat_lt
/-- A list of numbers, as the values of bytes. -/
def u8s (l : List Nat) : List Value := l.map fun n => Value.int .u8 ((n : Nat) : Int)
theorem u8s_append (a b : List Nat) : u8s (a ++ b) = u8s a ++ u8s b := by simp [u8s]

/-- What holds of the call's own memory while the name is written: the row that is appended to; below B nothing has turned. -/
structure Inv (B : Nat) (w wr : World) (v : Value) (xs : List Nat) : Prop where
  own : wr.ownsRow B 5 1 v xs.length (u8s xs)
  bel : Below B w wr

theorem Inv.step {B : Nat} {w wr w1 : World} {v : Value} {xs ys : List Nat} {o : Obj} {g m cap : Nat} {news : List Value} (h : Inv B w wr v xs) (hB : B ≤ wr.heap.size)
    (hown' : w1.ownsRow B 5 1 (.slice (some ⟨g, 0, none⟩) (xs.length + m) cap) (xs.length + m) (u8s xs ++ news)) (hgrow : (wr.alloc o).grownBy w1 v.ownBlock)
    (hm : m = ys.length) (hn : news = u8s ys) : Inv B w w1 (.slice (some ⟨g, 0, none⟩) (xs.length + m) cap) (xs ++ ys) := by
  subst hm hn
  refine ⟨?_, ?_⟩
  · rw [List.length_append, u8s_append]; exact hown'
  · refine (h.bel.alloc hB o).grown hgrow (by simp; omega) ?_
    intro k hk
    exact (h.own.lt k hk).1

theorem Inv.round {B : Nat} {w wr w1 : World} {v : Value} {l ys : List Nat} {o : Obj} {g k m cap : Nat} {news : List Value} (h : Inv B w wr v (upTo l k)) (hB : B ≤ wr.heap.size)
    (hown' : w1.ownsRow B 5 1 (.slice (some ⟨g, 0, none⟩) ((upTo l k).length + m) cap) ((upTo l k).length + m) (u8s (upTo l k) ++ news)) (hgrow : (wr.alloc o).grownBy w1 v.ownBlock)
    (hS : upTo l (k + 1) = upTo l k ++ ys) (hm : m = ys.length) (hn : news = u8s ys) :
    (upTo l k).length + m = (upTo l (k + 1)).length ∧ Inv B w w1 (.slice (some ⟨g, 0, none⟩) ((upTo l k).length + m) cap) (upTo l (k + 1)) :=
  ⟨by rw [hS, List.length_append, hm], by rw [hS]; exact h.step hB hown' hgrow hm hn⟩

/-- The block of '[]byte(label)' stays as it is: it bears a mark, the row that is written bears none. -/
theorem kept_marked {B bs : Nat} {w wr w1 : World} {v : Value} {xs : List Nat} {o : Obj} {C : Array Value} {n : Nat} (h : Inv B w wr v xs) (hb : wr.heap[bs]? = some (.cells C 5 (n, n + 1)))
    (hgrow : (wr.alloc o).grownBy w1 v.ownBlock) : w1.heap[bs]? = some (.cells C 5 (n, n + 1)) := by
  have hlt : bs < wr.heap.size := by
    rcases Nat.lt_or_ge bs wr.heap.size with h1 | h1
    · exact h1
    · rw [Array.getElem?_eq_none h1] at hb; cases hb
  rw [hgrow.block bs (by simp; omega) ?_]
  · rw [Below.heap_alloc _ _ _ hlt]; exact hb
  · intro e
    rcases h.own.2 with ⟨hv, _⟩ | ⟨g, cap, cur, hv, hg, hh, r⟩
    · rw [hv] at e; simp [Value.ownBlock] at e
    · rw [hv] at e
      simp only [Value.ownBlock, Option.some.injEq] at e
      rw [← e, hb] at hh
      simp at hh

theorem cell_marked {bs k n : Nat} {wr : World} {C : Array Value} {v : Value} (hb : wr.heap[bs]? = some (.cells C 5 (n, n + 1))) (hk : C[k]? = some v) : wr.cell? ⟨bs, k, none⟩ = some v := by
  have := World.news_of_block hb k v (by simpa using hk)
  by_cases h0 : k = 0
  · subst h0; simpa [Addr.add] using this
  · simpa [Addr.add, h0] using this

theorem row_get (s : ByteArray) (cap k : Nat) (h : k < s.size) : (bytesRow s cap)[k]? = some (.int .u8 ((s[k]'h).toNat : Int)) := by
  unfold bytesRow
  have h' : k < s.data.size := h
  rw [Array.getElem?_append_left (by simpa using h')]
  rw [Array.getElem?_map, Array.getElem?_eq_getElem h']
  rfl

/-- 'string(out)' of the row that the call owns. -/
theorem back_own {w : World} {B g n cap : Nat} {ys : List Nat} (hown : w.ownsRow B 5 1 (.slice (some ⟨g, 0, none⟩) n cap) n (u8s ys)) (hn : n = ys.length) (hlt : ∀ x ∈ ys, x < 256) :
    (convert 25 9 (.slice (some ⟨g, 0, none⟩) n cap)).run Ybad.prog w = .ok (.string ⟨(ys.map UInt8.ofNat).toArray⟩) w := by
  have hl : n = (ys.map UInt8.ofNat).length := by simp [hn]
  rw [hl]
  refine run_convert_bytes_back w 25 9 5 ⟨g, 0, none⟩ cap (ys.map UInt8.ofNat) Ybad.underlying25 Ybad.underlying5 Ybad.underlying9 ?_
  intro j hj
  have hj' : j < ys.length := by simpa using hj
  have := hown.cells (g := g) rfl j (.int .u8 ((ys[j] : Nat) : Int)) (by simp [u8s, hj'])
  rw [this]
  have h256 := hlt ys[j] (List.getElem_mem _)
  simp [Nat.mod_eq_of_lt h256]

theorem Inv.last {B : Nat} {w wr w1 : World} {v : Value} {s : ByteArray} {k g cap : Nat} {news : List Value} (_h : Inv B w wr v (upTo (nats s) k))
    (hown' : w1.ownsRow B 5 1 (.slice (some ⟨g, 0, none⟩) ((upTo (nats s) k).length + 1) cap) ((upTo (nats s) k).length + 1) (u8s (upTo (nats s) k) ++ news)) (hn : news = u8s [34]) :
    (convert 25 9 (.slice (some ⟨g, 0, none⟩) ((upTo (nats s) k).length + 1) cap)).run Ybad.prog w1 = .ok (.string ⟨((upTo (nats s) k ++ [34]).map UInt8.ofNat).toArray⟩) w1 := by
  rw [hn, ← u8s_append] at hown'
  refine back_own hown' (by simp) ?_
  intro x hx
  rcases List.mem_append.1 hx with h1 | h1
  · exact upTo_lt (nats s) k (nats_lt s) x h1
  · simp at h1; omega

end Go.Proofs.YbulkeibwDoor
