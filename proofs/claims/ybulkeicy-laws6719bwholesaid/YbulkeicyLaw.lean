/-
  THE WALK of LawS6719BWhole out of its callees' contracts.
-/
import Derived.Test.YbulkeicyCallees
import Derived.Deep.CutBlock
namespace Go.Proofs.Ybulkeicy
open Go.RowKit

/-- The argument: a slice of slices of bytes. -/
structure Outer (w : World) (ao : Option Addr) (n : Nat) (L : List (List Int)) : Prop where
  len : L.length = n
  cell : ∀ i (h : i < L.length), ∃ b off, ao = some ⟨b, off, none⟩ ∧ ∃ a l c, w.cell? ⟨b, off + i, none⟩ = some (.slice a l c) ∧ PRow w a l c L[i] ∧ l ≤ 140737488355328

/-- The records to be made: at least one; what each carries lies in memory. -/
structure View (w : World) (b off : Nat) (L : List (List Int)) : Prop where
  ne : 0 < L.length
  le : L.length ≤ 5864062014635
  flat : (flatOf L).length ≤ 1048576
  byte : ∀ p ∈ L, ∀ z ∈ p, 0 ≤ z ∧ z ≤ 255
  cell : ∀ i (h : i < L.length), ∃ a l c, w.cell? ⟨b, off + i, none⟩ = some (.slice a l c) ∧ PRow w a l c L[i]

theorem view_none (w : World) : View (w.alloc (.cells #[.slice none 0 0] 24)) w.heap.size 0 [[]] :=
  ⟨by decide, by decide, by decide, by simp, fun i h => by
    have hi : i = 0 := by simp at h; omega
    subst hi
    refine ⟨none, 0, 0, ?_, ⟨rfl, Nat.le_refl _, fun _ => rfl, fun _ h => by cases h⟩⟩
    exact cell_one_new w (.slice none 0 0) 24 0 (.slice none 0 0) rfl⟩

/-- The first record's length, once it is known. -/
def fl (T : List (List Int)) (k : Nat) : Nat := if k = 0 then 0 else (T.headD []).length

theorem fl_zero (T : List (List Int)) (k : Nat) (h0 : k = 0) (h : k < T.length) : fl T (k + 1) = T[k].length := by
  subst h0
  cases T with
  | nil => simp at h
  | cons p T => simp [fl]
theorem fl_succ (T : List (List Int)) (k : Nat) (h0 : ¬ k = 0) : fl T (k + 1) = fl T k := by simp [fl, h0]
theorem cut_at (T L : List (List Int)) (hT : T = L.map cutTo) (k : Nat) (h1 : k < T.length) (h2 : k < L.length) : T[k] = cutTo L[k] := by subst hT; simp

theorem small_of (T L : List (List Int)) (hT : T = L.map cutTo) : ∀ j (h : j < T.length), T[j].length ≤ 65535 := by
  subst hT
  intro j h
  simp only [List.getElem_map, cutTo_len]
  omega

theorem frozen_all {w : World} {B g n c : Nat} {xs : List Value} (h : w.ownsRow B 5 1 (.slice (some ⟨g, 0, none⟩) n c) n xs) : ∀ j, w.frozen? ⟨g, j, none⟩ = false := by
  rcases h.2 with ⟨hv, _⟩ | ⟨g', cap, cur, hv, _, hh, _⟩
  · simp at hv
  · simp only [Value.slice.injEq, Option.some.injEq, Addr.mk.injEq] at hv
    obtain ⟨⟨rfl, _, _⟩, _, _⟩ := hv
    intro j
    simp [World.frozen?, hh]

theorem cap_le {w : World} {B n c : Nat} {ao : Option Addr} {xs : List Value} (h : w.ownsRow B 5 1 (.slice ao n c) n xs) : n ≤ c ∧ c ≤ maxLen := by
  rcases h.2 with ⟨hv, hn⟩ | ⟨g', cap, cur, hv, _, _, h1, h2, _⟩
  · simp at hv
    exact ⟨by omega, by rw [hv.2.2]; exact Nat.zero_le _⟩
  · simp at hv
    obtain ⟨_, rfl⟩ := hv
    exact ⟨h1, h2⟩

theorem fl_all (T : List (List Int)) (h : 0 < T.length) : fl T T.length = T[0].length := by
  cases T with
  | nil => simp at h
  | cons p T => simp [fl]

theorem byte_of (T L : List (List Int)) (hT : T = L.map cutTo) (hb : ∀ p ∈ L, ∀ z ∈ p, 0 ≤ z ∧ z ≤ 255) : ∀ p ∈ T, ∀ z ∈ p, 0 ≤ z ∧ z ≤ 255 := by
  subst hT
  intro p hp z hz
  obtain ⟨p', hp', rfl⟩ := List.mem_map.1 hp
  exact hb p' hp' z (List.mem_of_mem_take hz)

theorem PRow.drewN {w : World} {ao : Option Addr} {l c : Nat} {zs : List Int} (h : PRow w ao l c zs) (q : Nat) : PRow (w.drewN q) ao l c zs :=
  ⟨h.len, h.le, h.none, fun ad had j hj => by
    have h1 := h.cell ad had j hj
    simpa using h1⟩

/-- bytes.Equal of two slices that hold the same. -/
theorem equal_same {w : World} {ao ao2 : Option Addr} {l l2 c c2 : Nat} {zs : List Int} (h1 : PRow w ao l c zs) (h2 : PRow w ao2 l2 c2 zs) :
    Calls Yba.prog 6 #[.slice ao l c, .slice ao2 l2 c2] w fun e w' => e = .returned (.bool true) ∧ w = w' := by
  refine (equal_any _ _ _ _ w (prow_string h1) (prow_string h2)).mono ?_
  rintro e w' ⟨rfl, rfl⟩
  exact ⟨by simp, rfl⟩

/-- The first byte that the records carry. -/
theorem Recs.five {w : World} {g c : Nat} {T : List (List Int)} (h : Recs w g c T) (hne : 0 < T.length) (hb : ∀ p ∈ T, ∀ z ∈ p, 0 ≤ z ∧ z ≤ 255) (h0 : 0 < (T[0]'hne).length) :
    ∃ x, w.cell? ⟨g, 5, none⟩ = some (.int .u8 x) ∧ 0 ≤ x ∧ x ≤ 255 ∧ (5 : Int) < ((recsOf T).length : Nat) := by
  have h1 := recsOf_take_len T 0 hne
  have e0 : (recsOf (T.take 0)).length = 0 := rfl
  rw [e0] at h1
  have h2 := recs_data T 0 hne 0 h0
  rw [e0] at h2
  have h3 := h.cell 5 (by omega)
  have h4 : (recsOf T).getD 5 0 = (T[0]'hne).getD 0 0 := h2
  rw [h4] at h3
  have h5 : (T[0]'hne).getD 0 0 = (T[0]'hne)[0]'h0 := by simp [h0]
  rw [h5] at h3
  have h6 := hb _ (List.getElem_mem hne) _ (List.getElem_mem h0)
  exact ⟨_, h3, h6.1, h6.2, by omega⟩

theorem Recs.five' {w : World} {g c N : Nat} {T : List (List Int)} (h : Recs w g c T) (hne : 0 < T.length) (h0 : (T[0]'hne).length < N) (hN : N ≤ (flatOf T).length) :
    ∃ x, w.cell? ⟨g, 5, none⟩ = some (.int .u8 x) ∧ (5 : Int) < ((recsOf T).length : Nat) := by
  have h1 := more_left T 0 N hne (by rw [List.take_zero, flatOf_nil, List.length_nil]; omega) hN
  have e0 : (recsOf (T.take 0)).length = 0 := rfl
  rw [e0] at h1
  exact ⟨_, h.cell 5 (by omega), by omega⟩

set_option maxHeartbeats 4000000 in
set_option maxRecDepth 100000 in
theorem law_any (ao : Option Addr) (n cap : Nat) (L : List (List Int)) (nsel : Int) (w : World) (hO : Outer w ao n L) (hn : n ≤ 5864062014635)
    (hb : ∀ p ∈ L, ∀ z ∈ p, 0 ≤ z ∧ z ≤ 255) (h0 : 0 ≤ nsel) (h1 : nsel ≤ 18446744073709551615) :
    Calls Yba.prog 3 #[.slice ao n cap, .int .u64 nsel] w fun e w' => e = .returned (.bool true) ∧ Below w.heap.size w w' := by
  go_enter Yba.func3, Yba.ntmps3
  go_upto_block 0 with fail
  go_cut [] from 5 (fun wc => w = wc ∧ (flatOf L).length ≤ 1048576)
  case first =>
    go_wp2
    go_loop [5, 21] (fun r i => ∃ k : Nat, k ≤ n ∧ i = .int .i64 k ∧ r = .int .i64 ((flatOf (L.take k)).length : Nat) ∧ (flatOf (L.take k)).length ≤ 1048576) (fun _ i => n - (intOf i).toNat)
    case atStart => exact ⟨0, Nat.zero_le _, rfl, rfl, Nat.zero_le _⟩
    case round =>
      obtain ⟨k, hk, rfl, rfl, hraw⟩ := hrel
      by_cases hlt : k < n
      · have hkL : k < L.length := by rw [hO.len]; exact hlt
        obtain ⟨b, off, rfl, a, l, c, hcell, hp, hl⟩ := hO.cell k hkL
        have hfs := congrArg List.length (flatOf_succ L k hkL)
        rw [List.length_append, hp.len] at hfs
        have HF : Hid ((flatOf (L.take (k + 1))).length = (flatOf (L.take k)).length + l) := hfs
        clear hfs
        by_cases hbig : 1048576 < (flatOf (L.take k)).length + l
        · go_wp2
          go_ret
          exact ⟨rfl, Below.refl _ _⟩
        · go_wp2
          go_round
          case rel => exact ⟨k + 1, by omega, by go_num, by rw [HF.out]; go_num, by rw [HF.out]; omega⟩
          case measure => simp [intOf]; omega
      · obtain rfl : k = n := by omega
        have hd : decide ((k : Int) < (k : Int)) = false := by simp
        have hall : (flatOf L).length ≤ 1048576 := by rw [← flatOf_all L, hO.len]; exact hraw
        go_wp2
        go_meet
        exact ⟨rfl, hall⟩
  case rest =>
    obtain ⟨rfl, hfl⟩ := hcut
    go_upto_if 35 with fail
    go_cut [8] from 9 (fun ps wc => ∃ b off cp L', ps = .slice (some ⟨b, off, none⟩) L'.length cp ∧ View wc b off L' ∧ Below w.heap.size w wc)
    case first =>
      by_cases hz : n = 0
      · subst hz
        go_wp2
        go_meet
        exact ⟨w.heap.size, 0, 1, [[]], rfl, view_none w, (Below.refl _ _).alloc (Nat.le_refl _) _⟩
      · have hL0 : 0 < L.length := by rw [hO.len]; omega
        obtain ⟨b, off, rfl, _⟩ := hO.cell 0 hL0
        have hV : View w b off L := ⟨hL0, by rw [hO.len]; exact hn, hfl, hb, fun i h => by
          obtain ⟨b', off', e, a, l, c, h1, h2, _⟩ := hO.cell i h
          cases e
          exact ⟨a, l, c, h1, h2⟩⟩
        have HV : Hid (View w b off L) := hV
        have HL : Hid (L.length = n) := hO.len
        clear hV hO hb hfl
        go_wp2
        go_meet
        exact ⟨b, off, cap, L, by rw [HL.out], HV.out, Below.refl _ _⟩
    case rest =>
      obtain ⟨b, off, cp, L', rfl, hV, hbel⟩ := hcut
      clear hO hb hfl
      have hTl : (L'.map cutTo).length = L'.length := by simp
      obtain ⟨T, hT⟩ : ∃ T, T = L'.map cutTo := ⟨_, rfl⟩
      have HT : Hid (T = L'.map cutTo) := hT
      rw [← hT] at hTl
      have hLe := hV.le
      have hTl1 : T.length ≤ L'.length := by omega
      have hTl2 : L'.length ≤ T.length := by omega
      clear hT hTl
      go_wp2
      go_loopw [9, 10, 11, 39] (fun v9 v10 v11 i wr => ∃ (k : Nat) (ao : Option Addr) (c : Nat) (ao2 : Option Addr) (c2 : Nat), k ≤ T.length ∧ i = .int .i64 k ∧ v9 = .slice ao (recsOf (T.take k)).length c ∧
          v10 = .slice ao2 (flatOf (T.take k)).length c2 ∧ v11 = .int .i64 (fl T k : Nat) ∧ Two wc.heap.size wc wr ao c (recsOf (T.take k)) ao2 c2 (flatOf (T.take k))) (fun _ _ _ i _ => T.length - (intOf i).toNat)
      case atStart => exact ⟨0, none, 0, none, 0, Nat.zero_le _, rfl, rfl, rfl, rfl, ⟨World.ownsRow_nil _ _ _ _, World.ownsRow_nil _ _ _ _, .inl rfl, Below.refl _ _⟩⟩
      case round =>
        obtain ⟨k, ao9, c9, ao10, c10, hk, rfl, rfl, rfl, rfl, h2⟩ := hrel
        by_cases hlt : k < T.length
        · have hkL : k < L'.length := by omega
          obtain ⟨a, l, c, hcell0, hp0⟩ := hV.cell k hkL
          have hcell : wr.cell? ⟨b, off + k, none⟩ = some (.slice a l c) := by rw [h2.bel.cell (lt_of_cell hcell0)]; exact hcell0
          clear hcell0
          have hcut := cut_at T L' HT.out k hlt hkL
          have HR : Hid (recsOf (T.take (k + 1)) = recsOf (T.take k) ++ hdr (T[k]'hlt).length ++ T[k]'hlt) := recsOf_succ T k hlt
          have HF : Hid (flatOf (T.take (k + 1)) = flatOf (T.take k) ++ T[k]'hlt) := flatOf_succ T k hlt
          have hsz : wc.heap.size ≤ wr.heap.size := h2.bel.size
          have bR := recsOf_take_len T k hlt
          have bF := flatOf_take_len T k hlt
          have bR' := recsOf_len T
          have bT := hV.flat
          have bC := flat_cut_le L'
          rw [← HT.out] at bC
          by_cases hbig : 65535 < l
          · obtain ⟨ad, rfl⟩ : ∃ ad, a = some ad := by
              cases a with
              | none => exact absurd (hp0.none rfl) (by have := hp0.le; omega)
              | some ad => exact ⟨ad, rfl⟩
            have hp : PRow wc (some ad) 65535 c (T[k]'hlt) := by rw [hcut]; exact hp0.cut (by omega)
            have hle := hp0.le
            have bL := hp.len
            have q1 : (recsOf (T.take k)).length + 5 + 65535 ≤ 29320311121751 := by omega
            have q2 : (flatOf (T.take k)).length + 65535 ≤ 1048576 := by omega
            clear hcut bR bF bR' bT bC bL hp0
            by_cases hk0 : k = 0
            · have HFL : Hid (fl T (k + 1) = 65535) := by
                show fl T (k + 1) = 65535
                rw [fl_zero T k hk0 hlt, hp.len]
              have hk0' : ((k : Int) == 0) = true := by simp; omega
              clear hk0
              go_wp2_with (first
                | (at_builtin; refine wpList_append_prow rfl (.tmp 53) (.tmp 61) rfl wc.heap.size ao9 _ c9 (recsOf (T.take k)) rfl (h2.one.alloc _) (some ⟨wr.heap.size, 0, none⟩) 5 5 (hdr 65535) rfl (prow_hdr wr 65535) (by omega) (by simp; omega) ?_; intro ao1 cp1 w1 hown1 hgrow1 hat1; have t1 := (h2.alloc hsz _).step (by simp; omega) rfl (by rw [hdr_len]) hown1 hgrow1 hat1)
                | (at_builtin; refine wpList_append_prow rfl (.tmp 63) (.tmp 64) rfl wc.heap.size ao1 _ cp1 (recsOf (T.take k) ++ hdr 65535) rfl hown1 (some ad) 65535 c (T[k]'hlt) rfl (hp.below t1.bel) (by omega) (t1.size (Nat.le_refl _)) ?_; intro ao2 cp2 w2 hown2 hgrow2 hat2; have t2 := t1.step (t1.size (Nat.le_refl _)) (by rw [List.length_append, hdr_len]) hp.len.symm hown2 hgrow2 hat2)
                | (at_builtin; refine wpList_append_prow rfl (.tmp 66) (.tmp 67) rfl wc.heap.size ao10 _ c10 (flatOf (T.take k)) rfl t2.two (some ad) 65535 c (T[k]'hlt) rfl (hp.below t2.bel) (by omega) (t2.size (Nat.le_refl _)) ?_; intro ao3 cp3 w3 hown3 hgrow3 hat3; have t3 := (t2.symm.step (t2.size (Nat.le_refl _)) rfl hp.len.symm hown3 hgrow3 hat3).symm))
              go_roundw
              case rel =>
                refine ⟨k + 1, ao2, cp2, ao3, cp3, hlt, by go_num, ?_, ?_, ?_, ?_⟩
                · exact slice_eq rfl (by rw [HR.out, List.length_append, List.length_append, hdr_len, hp.len]) rfl
                · exact slice_eq rfl (by rw [HF.out, List.length_append, hp.len]) rfl
                · rw [HFL.out]; try rfl
                · rw [HR.out, HF.out]; rw [hp.len]; exact t3
              case measure => simp [intOf]; omega
            · have HFL : Hid (fl T (k + 1) = fl T k) := fl_succ T k hk0
              have hk0' : ((k : Int) == 0) = false := by simp; omega
              go_wp2_with (first
                | (at_builtin; refine wpList_append_prow rfl (.tmp 53) (.tmp 61) rfl wc.heap.size ao9 _ c9 (recsOf (T.take k)) rfl (h2.one.alloc _) (some ⟨wr.heap.size, 0, none⟩) 5 5 (hdr 65535) rfl (prow_hdr wr 65535) (by omega) (by simp; omega) ?_; intro ao1 cp1 w1 hown1 hgrow1 hat1; have t1 := (h2.alloc hsz _).step (by simp; omega) rfl (by rw [hdr_len]) hown1 hgrow1 hat1)
                | (at_builtin; refine wpList_append_prow rfl (.tmp 63) (.tmp 64) rfl wc.heap.size ao1 _ cp1 (recsOf (T.take k) ++ hdr 65535) rfl hown1 (some ad) 65535 c (T[k]'hlt) rfl (hp.below t1.bel) (by omega) (t1.size (Nat.le_refl _)) ?_; intro ao2 cp2 w2 hown2 hgrow2 hat2; have t2 := t1.step (t1.size (Nat.le_refl _)) (by rw [List.length_append, hdr_len]) hp.len.symm hown2 hgrow2 hat2)
                | (at_builtin; refine wpList_append_prow rfl (.tmp 66) (.tmp 67) rfl wc.heap.size ao10 _ c10 (flatOf (T.take k)) rfl t2.two (some ad) 65535 c (T[k]'hlt) rfl (hp.below t2.bel) (by omega) (t2.size (Nat.le_refl _)) ?_; intro ao3 cp3 w3 hown3 hgrow3 hat3; have t3 := (t2.symm.step (t2.size (Nat.le_refl _)) rfl hp.len.symm hown3 hgrow3 hat3).symm))
              go_roundw
              case rel =>
                refine ⟨k + 1, ao2, cp2, ao3, cp3, hlt, by go_num, ?_, ?_, ?_, ?_⟩
                · exact slice_eq rfl (by rw [HR.out, List.length_append, List.length_append, hdr_len, hp.len]) rfl
                · exact slice_eq rfl (by rw [HF.out, List.length_append, hp.len]) rfl
                · rw [HFL.out]; try rfl
                · rw [HR.out, HF.out]; rw [hp.len]; exact t3
              case measure => simp [intOf]; omega
          · have hp : PRow wc a l c (T[k]'hlt) := by
              rw [hcut]
              have := hp0.cut (k := l) (Nat.le_refl _)
              rw [List.take_of_length_le (by rw [hp0.len]; omega)] at this
              rw [cutTo, List.take_of_length_le (by rw [hp0.len]; omega)]
              exact this
            have bL := hp.len
            have q1 : (recsOf (T.take k)).length + 5 + l ≤ 29320311121751 := by omega
            have q2 : (flatOf (T.take k)).length + l ≤ 1048576 := by omega
            clear hcut bR bF bR' bT bC bL hp0
            by_cases hk0 : k = 0
            · have HFL : Hid (fl T (k + 1) = l) := by
                show fl T (k + 1) = l
                rw [fl_zero T k hk0 hlt, hp.len]
              have hk0' : ((k : Int) == 0) = true := by simp; omega
              clear hk0
              go_wp2_with (first
                | (at_builtin; refine wpList_append_prow rfl (.tmp 53) (.tmp 61) rfl wc.heap.size ao9 _ c9 (recsOf (T.take k)) rfl (h2.one.alloc _) (some ⟨wr.heap.size, 0, none⟩) 5 5 (hdr l) rfl (prow_hdr wr l) (by omega) (by simp; omega) ?_; intro ao1 cp1 w1 hown1 hgrow1 hat1; have t1 := (h2.alloc hsz _).step (by simp; omega) rfl (by rw [hdr_len]) hown1 hgrow1 hat1)
                | (at_builtin; refine wpList_append_prow rfl (.tmp 63) (.tmp 64) rfl wc.heap.size ao1 _ cp1 (recsOf (T.take k) ++ hdr l) rfl hown1 a l c (T[k]'hlt) rfl (hp.below t1.bel) (by omega) (t1.size (Nat.le_refl _)) ?_; intro ao2 cp2 w2 hown2 hgrow2 hat2; have t2 := t1.step (t1.size (Nat.le_refl _)) (by rw [List.length_append, hdr_len]) hp.len.symm hown2 hgrow2 hat2)
                | (at_builtin; refine wpList_append_prow rfl (.tmp 66) (.tmp 67) rfl wc.heap.size ao10 _ c10 (flatOf (T.take k)) rfl t2.two a l c (T[k]'hlt) rfl (hp.below t2.bel) (by omega) (t2.size (Nat.le_refl _)) ?_; intro ao3 cp3 w3 hown3 hgrow3 hat3; have t3 := (t2.symm.step (t2.size (Nat.le_refl _)) rfl hp.len.symm hown3 hgrow3 hat3).symm))
              go_roundw
              case rel =>
                refine ⟨k + 1, ao2, cp2, ao3, cp3, hlt, by go_num, ?_, ?_, ?_, ?_⟩
                · exact slice_eq rfl (by rw [HR.out, List.length_append, List.length_append, hdr_len, hp.len]) rfl
                · exact slice_eq rfl (by rw [HF.out, List.length_append, hp.len]) rfl
                · rw [HFL.out]; try rfl
                · rw [HR.out, HF.out]; rw [hp.len]; exact t3
              case measure => simp [intOf]; omega
            · have HFL : Hid (fl T (k + 1) = fl T k) := fl_succ T k hk0
              have hk0' : ((k : Int) == 0) = false := by simp; omega
              go_wp2_with (first
                | (at_builtin; refine wpList_append_prow rfl (.tmp 53) (.tmp 61) rfl wc.heap.size ao9 _ c9 (recsOf (T.take k)) rfl (h2.one.alloc _) (some ⟨wr.heap.size, 0, none⟩) 5 5 (hdr l) rfl (prow_hdr wr l) (by omega) (by simp; omega) ?_; intro ao1 cp1 w1 hown1 hgrow1 hat1; have t1 := (h2.alloc hsz _).step (by simp; omega) rfl (by rw [hdr_len]) hown1 hgrow1 hat1)
                | (at_builtin; refine wpList_append_prow rfl (.tmp 63) (.tmp 64) rfl wc.heap.size ao1 _ cp1 (recsOf (T.take k) ++ hdr l) rfl hown1 a l c (T[k]'hlt) rfl (hp.below t1.bel) (by omega) (t1.size (Nat.le_refl _)) ?_; intro ao2 cp2 w2 hown2 hgrow2 hat2; have t2 := t1.step (t1.size (Nat.le_refl _)) (by rw [List.length_append, hdr_len]) hp.len.symm hown2 hgrow2 hat2)
                | (at_builtin; refine wpList_append_prow rfl (.tmp 66) (.tmp 67) rfl wc.heap.size ao10 _ c10 (flatOf (T.take k)) rfl t2.two a l c (T[k]'hlt) rfl (hp.below t2.bel) (by omega) (t2.size (Nat.le_refl _)) ?_; intro ao3 cp3 w3 hown3 hgrow3 hat3; have t3 := (t2.symm.step (t2.size (Nat.le_refl _)) rfl hp.len.symm hown3 hgrow3 hat3).symm))
              go_roundw
              case rel =>
                refine ⟨k + 1, ao2, cp2, ao3, cp3, hlt, by go_num, ?_, ?_, ?_, ?_⟩
                · exact slice_eq rfl (by rw [HR.out, List.length_append, List.length_append, hdr_len, hp.len]) rfl
                · exact slice_eq rfl (by rw [HF.out, List.length_append, hp.len]) rfl
                · rw [HFL.out]; try rfl
                · rw [HR.out, HF.out]; rw [hp.len]; exact t3
              case measure => simp [intOf]; omega
        · obtain rfl : k = T.length := by omega
          rw [recsOf_all, flatOf_all] at h2
          rw [recsOf_all, flatOf_all]
          have hne : 0 < T.length := by have := hV.ne; omega
          have hRl := recsOf_len T
          have bT := hV.flat
          have bC := flat_cut_le L'
          rw [← HT.out] at bC
          have hRp : 0 < (recsOf T).length := by omega
          have hRb : (recsOf T).length ≤ 29320311121751 := by omega
          have hFb : (flatOf T).length ≤ 1048576 := by omega
          clear hRl bT bC
          obtain ⟨g, cg, hv9, hgB, hglt⟩ := h2.one.form hRp
          simp only [Value.slice.injEq, true_and] at hv9
          obtain ⟨rfl, rfl⟩ := hv9
          have hm0 : 0 ≤ nsel % (((flatOf T).length : Int) + 1) := Int.emod_nonneg _ (by omega)
          have hm1 : nsel % (((flatOf T).length : Int) + 1) ≤ ((flatOf T).length : Int) := by have := Int.emod_lt_of_pos nsel (show (0 : Int) < ((flatOf T).length : Int) + 1 by omega); omega
          have hsm : ∀ j (h : j < T.length), T[j].length ≤ 65535 := small_of T L' HT.out
          have hfr := frozen_all h2.one
          have hc9 := cap_le h2.one
          have hc10 := (cap_le h2.two).1
          go_upto_region 27 with fail
          obtain ⟨N, hN⟩ := Int.eq_ofNat_of_zero_le hm0
          rw [hN]
          rw [hN] at hm1
          have hNY : N ≤ (flatOf T).length := by omega
          clear hm0 hm1 hN
          have HC := clone_any ⟨g, 0, none⟩ (recsOf T).length c9 (recsOf T) wr (own_prow h2.one) hRp (by omega)
          go_wp2_with fail
          refine HC.mono ?_
          rintro e w1 ⟨aoB, cB, rfl, hownB, hbel1⟩
          clear HC
          have hRecs : Recs w1 g c9 T := ⟨hne, hsm, fun j hj => by
            have hp := own_prow h2.one
            have h3 := hp.cell ⟨g, 0, none⟩ rfl j hj
            rw [Go.WideShapes.add_plain, Nat.zero_add] at h3
            rw [hbel1.cell (p := ⟨g, j, none⟩) hglt]
            exact h3, hc9.1, hc9.2, by omega⟩
          have hfl1 : fl T T.length = (T[0]'hne).length := fl_all T hne
          have hbw1 : Below w.heap.size w w1 := (hbel.trans (h2.bel.mono hbel.size)).trans (hbel1.mono (Nat.le_trans hbel.size h2.bel.size))
          have hfr5 : w1.frozen? ⟨g, 5, none⟩ = false := by rw [hbel1.frozen (p := ⟨g, 5, none⟩) hglt]; exact hfr 5
          have hpR : PRow w1 (some ⟨g, 0, none⟩) (recsOf T).length c9 (recsOf T) := (own_prow h2.one).below hbel1
          have hpF : PRow w1 ao10 N c10 ((flatOf T).take N) := ((own_prow h2.two).below hbel1).cut hNY
          have hpB : PRow w1 aoB (recsOf T).length cB (recsOf T) := own_prow hownB
          have hwg : w.heap.size ≤ g := Nat.le_trans hbel.size hgB
          have hg1 : g < w1.heap.size := Nat.lt_of_lt_of_le hglt hbel1.size
          have hbyT := byte_of T L' HT.out hV.byte
          clear hfr hc9 hsm h2 hownB hbel1 hV hbel hTl1 hTl2 hLe HT hk hlt
          by_cases hNT : N ≤ (T[0]'hne).length
          · have HH := hs_first g c9 T N w1 hRecs hNT
            have hflN : (N : Int) ≤ (fl T T.length : Nat) := by omega
            clear hfl1
            go_wp2_with fail
            refine HH.mono ?_
            rintro e w2 ⟨aoG, cG, rfl, hpG, haG, q, rfl⟩
            clear HH
            have HE1 := equal_same hpG (hpF.drewN q)
            have HE2 := equal_same (hpR.drewN q) (hpB.drewN q)
            go_wp2_with fail
            refine HE1.mono ?_
            clear HE1
            rintro e w2 ⟨rfl, rfl⟩
            go_wp2_with fail
            refine HE2.mono ?_
            clear HE2
            rintro e w2 ⟨rfl, rfl⟩
            by_cases hN0 : 0 < N
            · obtain rfl := haG hN0
              obtain ⟨x, hx, hx0, hx1, hR6⟩ := hRecs.five hne hbyT (by omega)
              have hxor := xor_255 x hx0 hx1
              clear hpG hpF hpR hpB hRecs haG hbyT
              go_wp2
              go_ret
              exact ⟨rfl, ((below_drewN hbw1 q).setCell (p := ⟨g, 5, none⟩) hwg _).setCell (p := ⟨g, 5, none⟩) hwg _⟩
            · clear hpG hpF hpR hpB hRecs haG hbyT
              go_wp2
              go_ret
              exact ⟨rfl, below_drewN hbw1 q⟩
          · have HH := hs_more g c9 T N w1 hRecs (by omega) hNY hFb
            have hflN : ((fl T T.length : Nat) : Int) < N := by omega
            clear hfl1
            go_wp2_with fail
            refine HH.mono ?_
            rintro e w2 ⟨cG, rfl, hownG, hbel2⟩
            clear HH
            have HE1 := equal_same (own_prow hownG) (hpF.below hbel2)
            have HE2 := equal_same (hpR.below hbel2) (hpB.below hbel2)
            have hN0 : 0 < N := by omega
            obtain ⟨x, hx⟩ := hRecs.five' hne (by omega) hNY
            have hx2 : w2.cell? ⟨g, 5, none⟩ = some (.int .u8 x) := by rw [hbel2.cell (p := ⟨g, 5, none⟩) hg1]; exact hx.1
            have hR6 := hx.2
            obtain ⟨y, hy⟩ : ∃ y, w2.cell? ⟨w1.heap.size, 0, none⟩ = some (.int .u8 y) := ⟨_, (own_prow hownG).cell ⟨w1.heap.size, 0, none⟩ rfl 0 hN0⟩
            have hfG : w2.frozen? ⟨w1.heap.size, 0, none⟩ = false := frozen_all hownG 0
            have hne1 : (⟨w1.heap.size, 0, none⟩ : Addr) ≠ ⟨g, 5, none⟩ := by intro e; simp at e
            have hw1s : w.heap.size ≤ w1.heap.size := hbw1.size
            have hbw2 : Below w.heap.size w w2 := hbw1.trans (hbel2.mono hw1s)
            clear hx hownG hpF hpR hpB hRecs hbyT hbel2
            go_wp2_with fail
            refine HE1.mono ?_
            clear HE1
            rintro e w3 ⟨rfl, rfl⟩
            go_wp2_with fail
            refine HE2.mono ?_
            clear HE2
            rintro e w3 ⟨rfl, rfl⟩
            go_wp2
            go_ret
            exact ⟨rfl, (hbw2.setCell (p := ⟨w1.heap.size, 0, none⟩) hw1s _).setCell (p := ⟨w1.heap.size, 0, none⟩) hw1s _⟩
end Go.Proofs.Ybulkeicy
