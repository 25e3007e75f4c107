/-
  THE CALLEES of LawS6719BWhole by their contracts: recordLen, bytes.Equal, bytes.Clone, handshakeData.
-/
import Derived.Test.YbulkeicyParts
import Derived.Deep.QuietTactic
import Derived.BigQuiet
import Derived.Deep.LoopGhost
import Derived.WalkSmall
namespace Go.Proofs.Ybulkeicy
open Go.RowKit

set_option maxHeartbeats 400000 in
theorem recordLen_any (g o l c : Nat) (hi lo : Int) (w : World) (hl : 5 ≤ l)
    (h3 : w.cell? ⟨g, o + 3, none⟩ = some (.int .u8 hi)) (h4 : w.cell? ⟨g, o + 4, none⟩ = some (.int .u8 lo)) (b1 : 0 ≤ hi) (b2 : hi ≤ 255) (b3 : 0 ≤ lo) (b4 : lo ≤ 255) :
    Calls Yba.prog 7 #[.slice (some ⟨g, o, none⟩) l c] w fun e w' => e = .returned (.int .i64 (hi * 256 + lo)) ∧ ∃ q, w' = w.drewN q := by
  have hl3 : (3 : Int) < (l : Int) := by omega
  have hl4 : (4 : Int) < (l : Int) := by omega
  go_enter Yba.func7, Yba.ntmps7
  go_wp2
  go_quiet (fail)
  go_wp2
  go_ret
  exact ⟨by rw [← or_256' hi lo b1 b2 b3 b4]; rfl, nq, rfl⟩

set_option maxHeartbeats 400000 in
theorem equal_any (x y : Value) (s t : ByteArray) (w : World) (hx : (convert 24 9 x).run Yba.prog w = .ok (.string s) w) (hy : (convert 24 9 y).run Yba.prog w = .ok (.string t) w) :
    Calls Yba.prog 6 #[x, y] w fun e w' => e = .returned (.bool (s.toList == t.toList)) ∧ w = w' := by
  go_enter Yba.func6, Yba.ntmps6
  go_wp2
  go_ret
  exact ⟨rfl, rfl⟩

theorem own_empty (w : World) : (w.alloc (.cells #[] 5)).ownsRow w.heap.size 5 1 (.slice (some ⟨w.heap.size, 0, none⟩) 0 0) 0 (bs []) :=
  ⟨rfl, .inr ⟨w.heap.size, 0, #[], rfl, Nat.le_refl _, heap_alloc_new w _, Nat.le_refl _, Nat.zero_le _, rfl, rfl⟩⟩

set_option maxHeartbeats 400000 in
theorem clone_any (ad : Addr) (n c : Nat) (xs : List Int) (w : World) (h : PRow w (some ad) n c xs) (hn : 0 < n) (hb : n ≤ 140737488355328) :
    Calls Yba.prog 4 #[.slice (some ad) n c] w fun e w' => ∃ ao cap, e = .returned (.slice ao n cap) ∧ w'.ownsRow w.heap.size 5 1 (.slice ao n cap) n (bs xs) ∧ Below w.heap.size w w' := by
  have hq := fun (x : World) => Lib.run_eql_slice_nil (P := Yba.prog) x 24 5 (some ad) n c 0 0 Yba.underlying24
  go_enter Yba.func4, Yba.ntmps4
  go_wp2_with (at_builtin; refine wpList_append_prow rfl (.tmp 5) (.tmp 6) rfl w.heap.size (some ⟨w.heap.size, 0, none⟩) 0 0 [] rfl (own_empty w) (some ad) n c xs rfl (h.below ((Below.refl _ w).alloc (Nat.le_refl _) _)) (by omega) (by simp) ?_; intro ao' cap' w1 hown hgrow hat)
  rw [Nat.zero_add, List.nil_append] at hown
  go_ret
  refine ⟨ao', cap', rfl, hown, ((Below.refl _ w).alloc (Nat.le_refl _) _).grown hgrow (by simp) ?_⟩
  intro k hk
  simp [ownB] at hk
  omega

/-- The row of whole records that handshakeData is handed. -/
structure Recs (w : World) (g cap : Nat) (T : List (List Int)) : Prop where
  ne : 0 < T.length
  small : ∀ k (h : k < T.length), T[k].length ≤ 65535
  cell : ∀ j, j < (recsOf T).length → w.cell? ⟨g, j, none⟩ = some (.int .u8 ((recsOf T).getD j 0))
  le : (recsOf T).length ≤ cap
  fit : cap ≤ maxLen
  bound : (recsOf T).length ≤ 140737488355328

theorem Recs.hi {w : World} {g cap : Nat} {T : List (List Int)} (h : Recs w g cap T) (k : Nat) (hk : k < T.length) :
    w.cell? ⟨g, (recsOf (T.take k)).length + 3, none⟩ = some (.int .u8 (((T[k].length : Nat) : Int) / 256)) := by
  have := recsOf_take_len T k hk
  rw [h.cell _ (by omega), recs_hdr T k hk 3 (by decide)]
  rfl
theorem Recs.lo {w : World} {g cap : Nat} {T : List (List Int)} (h : Recs w g cap T) (k : Nat) (hk : k < T.length) :
    w.cell? ⟨g, (recsOf (T.take k)).length + 4, none⟩ = some (.int .u8 (((T[k].length : Nat) : Int) % 256)) := by
  have := recsOf_take_len T k hk
  rw [h.cell _ (by omega), recs_hdr T k hk 4 (by decide)]
  rfl
/-- recordLen at record k. -/
theorem Recs.len_at {w : World} {g cap : Nat} {T : List (List Int)} (h : Recs w g cap T) (k : Nat) (hk : k < T.length) (l c : Nat) (hl : 5 ≤ l) (w' : World) (hw : ∀ j, w'.cell? ⟨g, j, none⟩ = w.cell? ⟨g, j, none⟩) :
    Calls Yba.prog 7 #[.slice (some ⟨g, (recsOf (T.take k)).length, none⟩) l c] w' fun e w1 => e = .returned (.int .i64 (T[k].length : Nat)) ∧ ∃ q, w1 = w'.drewN q := by
  have h1 := h.small k hk
  refine (recordLen_any g _ l c _ _ w' hl ((hw _).trans (h.hi k hk)) ((hw _).trans (h.lo k hk)) (by omega) (by omega) (by omega) (by omega)).mono ?_
  rintro e w1 ⟨rfl, hq⟩
  refine ⟨?_, hq⟩
  congr 2
  omega

theorem Recs.first {w : World} {g cap : Nat} {T : List (List Int)} (h : Recs w g cap T) (N : Nat) (hN : N ≤ (T[0]'h.ne).length) (q : Nat) (hc : 5 + N ≤ cap) :
    PRow (w.drewN q) (some ⟨g, 5, none⟩) N (cap - 5) ((flatOf T).take N) := by
  have hne := h.ne
  rw [flat_first T h.ne N hN]
  refine ⟨by rw [List.length_take]; omega, by omega, fun hh => (by cases hh), ?_⟩
  intro ad had j hj
  cases had
  rw [Go.WideShapes.add_plain]
  have hb := recsOf_take_len T 0 h.ne
  have e0 : (recsOf (T.take 0)).length = 0 := rfl
  rw [e0] at hb
  have h1 := h.cell (5 + j) (by omega)
  have h2 := recs_data T 0 h.ne j (by omega)
  rw [e0, Nat.zero_add] at h2
  rw [h2] at h1
  have h3 : (List.take N T[0]).getD j 0 = T[0].getD j 0 := by
    simp only [List.getD_eq_getElem?_getD, List.getElem?_take, if_pos hj]
  rw [h3, ← h1]
  simp

set_option maxHeartbeats 400000 in
theorem hs_first (g cap : Nat) (T : List (List Int)) (N : Nat) (w : World) (h : Recs w g cap T) (hN : N ≤ (T[0]'h.ne).length) :
    Calls Yba.prog 5 #[.slice (some ⟨g, 0, none⟩) (recsOf T).length cap, .int .i64 (N : Nat)] w fun e w' =>
      ∃ ao c, e = .returned (.slice ao N c) ∧ PRow w' ao N c ((flatOf T).take N) ∧ (0 < N → ao = some ⟨g, 5, none⟩) ∧ ∃ q, w' = w.drewN q := by
  have hne := h.ne
  have h1 := h.len_at 0 h.ne (recsOf T).length cap (by have := recsOf_take_len T 0 h.ne; omega) w (fun _ => rfl)
  have e0 : (recsOf (T.take 0)).length = 0 := rfl
  rw [e0] at h1
  have hb := recsOf_take_len T 0 h.ne
  rw [e0] at hb
  have hle := h.le
  have hfit := h.fit
  have hbd := h.bound
  have hsm := h.small 0 h.ne
  unfold maxLen at hfit
  by_cases hc : 5 < cap
  · go_enter Yba.func5, Yba.ntmps5
    go_wp2_with fail
    refine h1.mono ?_
    rintro e w1 ⟨rfl, q, rfl⟩
    go_wp2
    go_ret
    exact ⟨_, _, rfl, h.first N hN q (by omega), fun _ => rfl, q, rfl⟩
  · obtain rfl : cap = 5 := by omega
    obtain rfl : N = 0 := by omega
    have hl0 : T[0].length = 0 := by omega
    rw [hl0] at h1
    clear hN
    go_enter Yba.func5, Yba.ntmps5
    go_wp2_with fail
    refine h1.mono ?_
    rintro e w1 ⟨rfl, q, rfl⟩
    go_wp2
    go_ret
    exact ⟨_, _, rfl, ⟨by simp, Nat.zero_le _, fun hh => (by cases hh), fun _ _ j hj => absurd hj (by omega)⟩, fun hh => absurd hh (by omega), q, rfl⟩

/-- The length in a slot that holds a slice. -/
def lenV : Value → Nat | .slice _ n _ => n | _ => 0

/-- What holds at the head of handshakeData's round. -/
structure HsAt (w wr : World) (g cap : Nat) (T : List (List Int)) (N k : Nat) (ao : Option Addr) : Prop where
  le : k ≤ T.length
  at_ : k < T.length → ao = some ⟨g, (recsOf (T.take k)).length, none⟩
  own : wr.ownsRow w.heap.size 5 1 (.slice (some ⟨w.heap.size, 0, none⟩) ((flatOf (T.take k)).take N).length N) ((flatOf (T.take k)).take N).length (bs ((flatOf (T.take k)).take N))
  bel : Below w.heap.size w wr

theorem Recs.lt {w : World} {g cap : Nat} {T : List (List Int)} (h : Recs w g cap T) : g < w.heap.size := by
  have := recsOf_take_len T 0 h.ne
  exact lt_of_cell (h.cell 0 (by omega))

theorem slice_eq {a b : Option Addr} {n m c d : Nat} (h1 : a = b) (h2 : n = m) (h3 : c = d) : Value.slice a n c = Value.slice b m d := by rw [h1, h2, h3]
theorem own_drewN {w : World} {base : Nat} {e : TypeId} {size : Nat} {v : Value} {n : Nat} {xs : List Value} (h : w.ownsRow base e size v n xs) (q : Nat) : (w.drewN q).ownsRow base e size v n xs := h

/-- What record k carries, where the append looks for it. -/
theorem Recs.data_at {w wr : World} {g cap : Nat} {T : List (List Int)} (h : Recs w g cap T) (bel : Below w.heap.size w wr) (k : Nat) (hk : k < T.length) (M o q : Nat) (ho : o = (recsOf (T.take k)).length) :
    ∀ j u, (bs (T[k].take M))[j]? = some u → (wr.drewN q).cell? ((⟨g, o + 5, none⟩ : Addr).add j) = some u := by
  intro j u hu
  have hj : j < (T[k].take M).length := by
    have := (List.getElem?_eq_some_iff.1 hu).1
    simpa [bs] using this
  have hj' : j < T[k].length := by rw [List.length_take] at hj; omega
  have hb := recsOf_take_len T k hk
  rw [Go.WideShapes.add_plain]
  have h1 : (wr.drewN q).cell? ⟨g, o + 5 + j, none⟩ = wr.cell? ⟨g, o + 5 + j, none⟩ := by simp
  rw [h1, bel.cell (p := ⟨g, o + 5 + j, none⟩) h.lt, h.cell (o + 5 + j) (by omega), ho, recs_data T k hk j hj', ← hu]
  simp [bs, hj']
  rw [List.getElem?_take, if_pos (by rw [List.length_take] at hj; omega)]
  simp [hj']

theorem HsAt.next {w wr w4 : World} {g cap : Nat} {T : List (List Int)} {N k : Nat} {ao ao' : Option Addr} (hA : HsAt w wr g cap T N k ao) (hk : k < T.length)
    {f m q : Nat} (hf : f = (flatOf (T.take k)).length) (hlt : f < N) (hm : m = (T[k].take (N - f)).length)
    (hown4 : w4.ownsRow w.heap.size 5 1 (.slice (some ⟨w.heap.size, 0, none⟩) (f + m) N) (f + m) (bs (flatOf (T.take k)) ++ bs (T[k].take (N - f)))) (hgrow4 : (wr.drewN q).grownBy w4 (some w.heap.size))
    (hao : k + 1 < T.length → ao' = some ⟨g, (recsOf (T.take (k + 1))).length, none⟩) :
    f + m = ((flatOf (T.take (k + 1))).take N).length ∧ HsAt w w4 g cap T N (k + 1) ao' := by
  have e := flat_take_succ T k N hk (by omega)
  rw [← hf] at e
  have el : f + m = ((flatOf (T.take (k + 1))).take N).length := by rw [e, List.length_append, ← hf, hm]
  refine ⟨el, ⟨hk, hao, ?_, ?_⟩⟩
  · rw [← el, e, bs_append]; exact hown4
  · refine (below_drewN hA.bel q).grown hgrow4 (by simpa using hA.bel.size) ?_
    intro j hj
    simp at hj
    omega

set_option maxHeartbeats 1000000 in
set_option maxRecDepth 100000 in
theorem hs_more (g cap : Nat) (T : List (List Int)) (N : Nat) (w : World) (h : Recs w g cap T) (hN : (T[0]'h.ne).length < N) (hNf : N ≤ (flatOf T).length) (hf : (flatOf T).length ≤ 1048576) :
    Calls Yba.prog 5 #[.slice (some ⟨g, 0, none⟩) (recsOf T).length cap, .int .i64 (N : Nat)] w fun e w' =>
      ∃ c, e = .returned (.slice (some ⟨w.heap.size, 0, none⟩) N c) ∧ w'.ownsRow w.heap.size 5 1 (.slice (some ⟨w.heap.size, 0, none⟩) N c) N (bs ((flatOf T).take N)) ∧ Below w.heap.size w w' := by
  have hne := h.ne
  obtain ⟨i0, hi, hz0, hz1, hz2⟩ := info_parts Yba.info5
  have h1 := h.len_at 0 h.ne (recsOf T).length cap (by have := recsOf_take_len T 0 h.ne; omega) w (fun _ => rfl)
  have e0 : (recsOf (T.take 0)).length = 0 := rfl
  rw [e0] at h1
  have hb := recsOf_take_len T 0 h.ne
  rw [e0] at hb
  have hle := h.le
  have hfit := h.fit
  have hbd := h.bound
  have hsm := h.small 0 h.ne
  unfold maxLen at hfit
  have hrl := recsOf_len T
  have hc : 5 < cap := by omega
  have hR : 5 ≤ (recsOf T).length := by omega
  clear hrl
  have hb1 : i0.bytes * N ≤ 281474976710656 := by rw [hz2]; omega
  have hb2 : N ≤ maxLen := by unfold maxLen; omega
  go_enter Yba.func5, Yba.ntmps5
  go_wp2_with fail
  refine h1.mono ?_
  clear h1 e0
  rintro e w1 ⟨rfl, q, rfl⟩
  go_wp2_with (at_make; refine wpList_make_own _ rfl _ _ 24 rfl w.heap.size 5 i0 (.int .u8 0) 1 Yba.underlying24 hi hz0 hz1 .i64 .i64 _ N rfl rfl (by omega) hb1 hb2 (by simp) ?_; intro w2 hown2 hgrow2)
  have hin : HsAt w w2 g cap T N 0 (some ⟨g, 0, none⟩) :=
    ⟨Nat.zero_le _, fun _ => rfl, by simpa [flatOf_nil, bs] using hown2, (below_drewN (Below.refl w.heap.size w) q).grown hgrow2 (by simp) (fun _ hh => by cases hh)⟩
  clear hown2 hgrow2
  have hNi : (N : Int) ≤ 1048576 := by omega
  go_loopw [0, 6] (fun v0 v6 wr => ∃ (k : Nat) (ao : Option Addr), v0 = .slice ao ((recsOf T).length - (recsOf (T.take k)).length) (cap - (recsOf (T.take k)).length) ∧
      v6 = .slice (some ⟨w.heap.size, 0, none⟩) ((flatOf (T.take k)).take N).length N ∧ HsAt w wr g cap T N k ao) (fun v0 _ _ => lenV v0)
  case atStart => exact ⟨0, _, rfl, by simp [flatOf_nil], hin⟩
  case round =>
    clear hin
    obtain ⟨k, ao, rfl, rfl, hA⟩ := hrel
    by_cases hlt : (flatOf (T.take k)).length < N
    · have hk := k_lt T k N hA.le hlt hNf
      obtain rfl := hA.at_ hk
      have hml := more_left T k N hk hlt hNf
      have hob := recsOf_take_len T k hk
      have hsk := h.small k hk
      have HL := h.len_at k hk ((recsOf T).length - (recsOf (T.take k)).length) (cap - (recsOf (T.take k)).length) (by omega) wr (fun j => hA.bel.cell (p := ⟨g, j, none⟩) h.lt)
      have hown : wr.ownsRow w.heap.size 5 1 (.slice (some ⟨w.heap.size, 0, none⟩) (flatOf (T.take k)).length N) (flatOf (T.take k)).length (bs (flatOf (T.take k))) := by
        have := hA.own
        rw [List.take_of_length_le (by omega)] at this
        exact this
      have ex : ((flatOf (T.take k)).take N).length = (flatOf (T.take k)).length := by rw [List.take_of_length_le (by omega)]
      rw [ex]
      clear ex
      obtain ⟨o, ho⟩ : ∃ o, o = (recsOf (T.take k)).length := ⟨_, rfl⟩
      obtain ⟨f, hf'⟩ : ∃ f, f = (flatOf (T.take k)).length := ⟨_, rfl⟩
      obtain ⟨pl, hpl⟩ : ∃ pl, pl = T[k].length := ⟨_, rfl⟩
      obtain ⟨R, hRR⟩ : ∃ R, R = (recsOf T).length := ⟨_, rfl⟩
      rw [← ho, ← hpl, ← hRR] at HL
      rw [← ho, ← hf', ← hRR]
      rw [← hf'] at hown hlt
      rw [← ho, ← hRR] at hml
      rw [← ho, ← hpl, ← hRR] at hob
      rw [← hpl] at hsk
      rw [← hRR] at hle hbd hR hb
      have Hall : Hid (o = (recsOf (T.take k)).length ∧ f = (flatOf (T.take k)).length ∧ pl = T[k].length ∧ R = (recsOf T).length) := ⟨ho, hf', hpl, hRR⟩
      clear ho hf' hpl hRR
      have HNL : Hid ((bs (T[k].take (N - f))).length = min (N - f) pl) := by
        show (bs (T[k].take (N - f))).length = min (N - f) pl
        rw [bs_len, List.length_take, Hall.out.2.2.1]
      by_cases hm : pl ≤ N - f
      · by_cases hend : cap - o ≤ 5 + pl
        · go_wp2_with (first | (go_at_call 7; refine HL.mono ?_; rintro e w3 ⟨rfl, q3, rfl⟩) | (at_builtin; refine wpList_append_fits_any _ rfl (.tmp 29) (.tmp 38) 24 rfl w.heap.size 5 i0 1 Yba.underlying24 hi hz1 w.heap.size f N (bs (flatOf (T.take k))) rfl (own_drewN hown _) (some ⟨g, o + 5, none⟩) _ _ (bs (T[k].take (N - f))) rfl (by rw [HNL.out]; omega) (fun hh => by cases hh) (fun ad had => by cases had; exact h.data_at hA.bel k hk _ o _ Hall.out.1) (bs_one _) (by omega) ?_; intro w4 hown4 hgrow4))
          have R1 := hA.next hk Hall.out.2.1 hlt (by rw [← bs_len, HNL.out]; omega) hown4 hgrow4 (ao' := some ⟨g, o, none⟩) (by
            intro hk1
            have t1 := recsOf_take_len T (k + 1) hk1
            have t2 := recs_take_succ_len T k hk
            rw [← Hall.out.2.2.2] at t1
            rw [← Hall.out.1, ← Hall.out.2.2.1] at t2
            omega)
          go_roundw
          case rel =>
            have t2 := recs_take_succ_len T k hk
            rw [← Hall.out.1, ← Hall.out.2.2.1] at t2
            refine ⟨k + 1, _, ?_, ?_, R1.2⟩
            · rw [t2]; exact slice_eq (by first | rfl | (rw [if_pos (by omega)]) | (rw [if_neg (by omega)])) (by omega) (by omega)
            · rw [← R1.1]; try exact slice_eq rfl (by omega) rfl
          case measure => simp [lenV]; omega
        · go_wp2_with (first | (go_at_call 7; refine HL.mono ?_; rintro e w3 ⟨rfl, q3, rfl⟩) | (at_builtin; refine wpList_append_fits_any _ rfl (.tmp 29) (.tmp 38) 24 rfl w.heap.size 5 i0 1 Yba.underlying24 hi hz1 w.heap.size f N (bs (flatOf (T.take k))) rfl (own_drewN hown _) (some ⟨g, o + 5, none⟩) _ _ (bs (T[k].take (N - f))) rfl (by rw [HNL.out]; omega) (fun hh => by cases hh) (fun ad had => by cases had; exact h.data_at hA.bel k hk _ o _ Hall.out.1) (bs_one _) (by omega) ?_; intro w4 hown4 hgrow4))
          have R1 := hA.next hk Hall.out.2.1 hlt (by rw [← bs_len, HNL.out]; omega) hown4 hgrow4 (ao' := some ⟨g, o + (5 + pl), none⟩) (by
            intro hk1
            have t1 := recsOf_take_len T (k + 1) hk1
            have t2 := recs_take_succ_len T k hk
            rw [← Hall.out.2.2.2] at t1
            rw [← Hall.out.1, ← Hall.out.2.2.1] at t2
            rw [t2, Nat.add_assoc])
          go_roundw
          case rel =>
            have t2 := recs_take_succ_len T k hk
            rw [← Hall.out.1, ← Hall.out.2.2.1] at t2
            refine ⟨k + 1, _, ?_, ?_, R1.2⟩
            · rw [t2]; exact slice_eq (by first | rfl | (rw [if_pos (by omega)]) | (rw [if_neg (by omega)])) (by omega) (by omega)
            · rw [← R1.1]; try exact slice_eq rfl (by omega) rfl
          case measure => simp [lenV]; omega
      · by_cases hend : cap - o ≤ 5 + pl
        · go_wp2_with (first | (go_at_call 7; refine HL.mono ?_; rintro e w3 ⟨rfl, q3, rfl⟩) | (at_builtin; refine wpList_append_fits_any _ rfl (.tmp 29) (.tmp 38) 24 rfl w.heap.size 5 i0 1 Yba.underlying24 hi hz1 w.heap.size f N (bs (flatOf (T.take k))) rfl (own_drewN hown _) (some ⟨g, o + 5, none⟩) _ _ (bs (T[k].take (N - f))) rfl (by rw [HNL.out]; omega) (fun hh => by cases hh) (fun ad had => by cases had; exact h.data_at hA.bel k hk _ o _ Hall.out.1) (bs_one _) (by omega) ?_; intro w4 hown4 hgrow4))
          have R1 := hA.next hk Hall.out.2.1 hlt (by rw [← bs_len, HNL.out]; omega) hown4 hgrow4 (ao' := some ⟨g, o, none⟩) (by
            intro hk1
            have t1 := recsOf_take_len T (k + 1) hk1
            have t2 := recs_take_succ_len T k hk
            rw [← Hall.out.2.2.2] at t1
            rw [← Hall.out.1, ← Hall.out.2.2.1] at t2
            omega)
          go_roundw
          case rel =>
            have t2 := recs_take_succ_len T k hk
            rw [← Hall.out.1, ← Hall.out.2.2.1] at t2
            refine ⟨k + 1, _, ?_, ?_, R1.2⟩
            · rw [t2]; exact slice_eq (by first | rfl | (rw [if_pos (by omega)]) | (rw [if_neg (by omega)])) (by omega) (by omega)
            · rw [← R1.1]; try exact slice_eq rfl (by omega) rfl
          case measure => simp [lenV]; omega
        · go_wp2_with (first | (go_at_call 7; refine HL.mono ?_; rintro e w3 ⟨rfl, q3, rfl⟩) | (at_builtin; refine wpList_append_fits_any _ rfl (.tmp 29) (.tmp 38) 24 rfl w.heap.size 5 i0 1 Yba.underlying24 hi hz1 w.heap.size f N (bs (flatOf (T.take k))) rfl (own_drewN hown _) (some ⟨g, o + 5, none⟩) _ _ (bs (T[k].take (N - f))) rfl (by rw [HNL.out]; omega) (fun hh => by cases hh) (fun ad had => by cases had; exact h.data_at hA.bel k hk _ o _ Hall.out.1) (bs_one _) (by omega) ?_; intro w4 hown4 hgrow4))
          have R1 := hA.next hk Hall.out.2.1 hlt (by rw [← bs_len, HNL.out]; omega) hown4 hgrow4 (ao' := some ⟨g, o + (5 + pl), none⟩) (by
            intro hk1
            have t1 := recsOf_take_len T (k + 1) hk1
            have t2 := recs_take_succ_len T k hk
            rw [← Hall.out.2.2.2] at t1
            rw [← Hall.out.1, ← Hall.out.2.2.1] at t2
            rw [t2, Nat.add_assoc])
          go_roundw
          case rel =>
            have t2 := recs_take_succ_len T k hk
            rw [← Hall.out.1, ← Hall.out.2.2.1] at t2
            refine ⟨k + 1, _, ?_, ?_, R1.2⟩
            · rw [t2]; exact slice_eq (by first | rfl | (rw [if_pos (by omega)]) | (rw [if_neg (by omega)])) (by omega) (by omega)
            · rw [← R1.1]; try exact slice_eq rfl (by omega) rfl
          case measure => simp [lenV]; omega
    · have hLN : ((flatOf (T.take k)).take N).length = N := by rw [List.length_take]; omega
      have hown := hA.own
      rw [flat_take_of T k N (by omega)] at hown
      have hLN' : ((flatOf T).take N).length = N := by rw [List.length_take]; omega
      rw [hLN'] at hown
      rw [hLN]
      clear hLN hLN'
      go_wp2
      go_ret
      exact ⟨_, rfl, hown, hA.bel⟩
end Go.Proofs.Ybulkeicy
