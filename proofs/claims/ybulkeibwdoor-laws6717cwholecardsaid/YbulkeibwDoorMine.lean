/-
  THE WALKS of 'needsQuote' and 'headerName'.
-/
import Derived.Test.YbulkeibwDoorParts
namespace Go.Proofs.YbulkeibwDoor
open Go.RowKit

set_option maxHeartbeats 400000 in
theorem need_yes (n : Nat) (w : World) (h : ndq n = true) :
    Calls Ybad.prog 6 #[.int .u8 n] w fun e w' => e = .returned (.bool true) ∧ w = w' := by
  have h' : (n : Int) ≤ 32 ∨ (32 < (n : Int) ∧ (n : Int) = 127) ∨ (32 < (n : Int) ∧ (n : Int) ≠ 127 ∧ (n : Int) = 34) ∨ (32 < (n : Int) ∧ (n : Int) ≠ 127 ∧ (n : Int) ≠ 34 ∧ (n : Int) = 92) := by
    simp [ndq] at h; omega
  rcases h' with h1 | ⟨h1, h2⟩ | ⟨h1, h2, h3⟩ | ⟨h1, h2, h3, h4⟩
  · go_enter Ybad.func6, Ybad.ntmps6
    go_wp2
    go_ret
    exact ⟨rfl, rfl⟩
  · have e1 : decide ((n : Int) ≤ 32) = false := by simp; omega
    have e2 : ((n : Int) == 127) = true := by simp; omega
    clear h1 h2
    go_enter Ybad.func6, Ybad.ntmps6
    go_wp2
    go_ret
    exact ⟨rfl, rfl⟩
  · have e1 : decide ((n : Int) ≤ 32) = false := by simp; omega
    have e2 : ((n : Int) == 127) = false := by simp; omega
    have e3 : ((n : Int) == 34) = true := by simp; omega
    clear h1 h2 h3
    go_enter Ybad.func6, Ybad.ntmps6
    go_wp2
    go_ret
    exact ⟨rfl, rfl⟩
  · have e1 : decide ((n : Int) ≤ 32) = false := by simp; omega
    have e2 : ((n : Int) == 127) = false := by simp; omega
    have e3 : ((n : Int) == 34) = false := by simp; omega
    have e4 : ((n : Int) == 92) = true := by simp; omega
    clear h1 h2 h3 h4
    go_enter Ybad.func6, Ybad.ntmps6
    go_wp2
    go_ret
    exact ⟨rfl, rfl⟩

set_option maxHeartbeats 400000 in
theorem need_no (n : Nat) (w : World) (h : ndq n = false) :
    Calls Ybad.prog 6 #[.int .u8 n] w fun e w' => e = .returned (.bool false) ∧ w = w' := by
  have h' : (32 < (n : Int) ∧ (n : Int) ≠ 127 ∧ (n : Int) ≠ 34 ∧ (n : Int) ≠ 92) := by
    simp [ndq] at h; omega
  obtain ⟨h1, h2, h3, h4⟩ := h'
  have e1 : decide ((n : Int) ≤ 32) = false := by simp; omega
  have e2 : ((n : Int) == 127) = false := by simp; omega
  have e3 : ((n : Int) == 34) = false := by simp; omega
  have e4 : ((n : Int) == 92) = false := by simp; omega
  clear h1 h2 h3 h4
  go_enter Ybad.func6, Ybad.ntmps6
  go_wp2
  go_ret
  exact ⟨rfl, rfl⟩

set_option maxHeartbeats 400000 in
theorem header_no (s : ByteArray) (w : World) (hs : s.size ≤ 1048576) (hno : ∀ j (h : j < s.size), ndq (s[j]'h).toNat = false) :
    Calls Ybad.prog 4 #[.string s] w fun e w' => e = .returned (.string s) ∧ w = w' := by
  go_enter Ybad.func4, Ybad.ntmps4
  go_wp2
  go_loop [3] (fun i => ∃ k : Nat, k ≤ s.size ∧ i = .int .i64 k) (fun i => s.size - (intOf i).toNat)
  case atStart => exact ⟨0, Nat.zero_le _, rfl⟩
  case round =>
    obtain ⟨k, hk, rfl⟩ := hrel
    by_cases hlt : k < s.size
    · have hn := hno k hlt
      have H : Hid (ndq (s[k]'hlt).toNat = false) := hn
      clear hn hno
      go_wp2_with (go_at_call 6; refine (need_no _ _ H.out).mono ?_; rintro e w' ⟨rfl, rfl⟩)
      go_round
      case rel => exact ⟨k + 1, by omega, by go_num⟩
      case measure => simp [intOf]; omega
    · have he : k = s.size := by omega
      subst he
      have hd : decide ((s.size : Int) < (s.size : Int)) = false := by simp
      go_wp2
      go_ret
      exact ⟨rfl, rfl⟩

set_option maxHeartbeats 1000000 in
set_option maxRecDepth 100000 in
theorem header_yes (s : ByteArray) (w : World) (hs : s.size ≤ 1048576) (j0 : Nat) (hj0 : j0 < s.size) (hyes : ndq (s[j0]'hj0).toNat = true)
    (htab : ∀ i, i < 256 → w.cell? ⟨0, i, none⟩ = some (.int .u8 (tabv i : Nat))) (hB : 0 < w.heap.size) :
    Calls Ybad.prog 4 #[.string s] w fun e w' => e = .returned (.string ⟨((quoted (nats s)).map UInt8.ofNat).toArray⟩) ∧ Below w.heap.size w w' := by
  obtain ⟨i0, hi, hz0, hz1, hz2⟩ := info_parts Ybad.info5
  have Hyes : Hid (ndq (s[j0]'hj0).toNat = true) := hyes
  clear hyes
  have hcv := fun (x : World) => run_bytes_of_string (P := Ybad.prog) x 9 25 5 s Ybad.underlying9 Ybad.underlying25 Ybad.underlying5
  go_enter Ybad.func4, Ybad.ntmps4
  go_wp2
  go_loop [3] (fun i => ∃ k : Nat, k ≤ j0 ∧ i = .int .i64 k) (fun i => s.size - (intOf i).toNat)
  case atStart => exact ⟨0, Nat.zero_le _, rfl⟩
  case round =>
    obtain ⟨k, hk, rfl⟩ := hrel
    have hlt : k < s.size := by omega
    rcases Bool.eq_false_or_eq_true (ndq (s[k]'hlt).toNat) with hq | hq
    · have H : Hid (ndq (s[k]'hlt).toNat = true) := hq
      clear hq
      have hb1 : i0.bytes * (s.size + 8) ≤ 281474976710656 := by rw [hz2]; omega
      have hb2 : s.size + 8 ≤ maxLen := by unfold maxLen; omega
      go_wp2_with (first
        | (go_at_call 6; refine (need_yes _ _ H.out).mono ?_; rintro e w' ⟨rfl, rfl⟩)
        | (at_make; refine wpList_make_own _ rfl _ _ 25 rfl w.heap.size 5 i0 (.int .u8 0) 1 Ybad.underlying25 hi hz0 hz1 .i64 .i64 _ (s.size + 8) rfl rfl (by omega) hb1 hb2 (Nat.le_refl _) ?_; intro w1 hown1 hgrow1)
        | (at_builtin; refine wpList_append_lies _ rfl (.tmp 30) (.tmp 31) 25 rfl w.heap.size 5 i0 (.int .u8 0) 1 1 Ybad.underlying25 hi hz0 hz1 hz2 rfl (by decide) _ _ _ rfl (hown1.alloc _) _ _ _ _ rfl rfl (World.news_of_block (heap_alloc_new _ _)) (by simp [Value.oneCell']) (by decide) (by decide) (by decide) (by simp; exact Nat.le_succ_of_le hgrow1.size) _ rfl ?_; intro g cap w2 hown2 hgrow2 hat2 hlt2))
      have hin : Inv w.heap.size w w2 (.slice (some ⟨g, 0, none⟩) 1 cap) (upTo (nats s) 0) := by
        rw [upTo_zero]
        exact ⟨hown2, ((Below.refl _ w).grown hgrow1 (Nat.le_refl _) (by intro _ h; cases h)).alloc hgrow1.size _ |>.grown hgrow2 (by simp; exact Nat.le_succ_of_le hgrow1.size) (by intro k hk; exact (hown1.lt k hk).1)⟩
      obtain ⟨cp, hcp⟩ : ∃ cp, cp = grownCap w2 s.size 0 5 := ⟨_, rfl⟩
      rw [← hcp]
      obtain ⟨C, hC⟩ : ∃ C, C = bytesRow s cp := ⟨_, rfl⟩
      rw [← hC]
      have hrow : ∀ j (hj : j < s.size), C[j]? = some (.int .u8 ((s[j]'hj).toNat : Int)) := by
        intro j hj; rw [hC]; exact row_get s cp j hj
      have hsz : w.heap.size ≤ w2.heap.size := hin.bel.size
      have hin' : Inv w.heap.size w ((w2.alloc (.cells C 5 (C.size, C.size + 1))).drew) (.slice (some ⟨g, 0, none⟩) 1 cap) (upTo (nats s) 0) :=
        ⟨(hin.own.alloc _).drew, (hin.bel.alloc hsz _).drew⟩
      have hbs : ((w2.alloc (.cells C 5 (C.size, C.size + 1))).drew).heap[w2.heap.size]? = some (.cells C 5 (C.size, C.size + 1)) := heap_alloc_new w2 _
      clear hin hown1 hown2 hgrow1 hgrow2 hcp hC hat2 hcv
      go_loopw [4, 36] (fun v i wr => ∃ (k g cap : Nat), k ≤ s.size ∧ i = .int .i64 k ∧ v = .slice (some ⟨g, 0, none⟩) (upTo (nats s) k).length cap ∧ Inv w.heap.size w wr v (upTo (nats s) k) ∧ wr.heap[w2.heap.size]? = some (.cells C 5 (C.size, C.size + 1)))
        (fun _ i _ => s.size - (intOf i).toNat)
      case atStart => exact ⟨0, g, cap, Nat.zero_le _, rfl, by rw [upTo_zero]; rfl, hin', hbs⟩
      case round =>
        clear hin' hbs
        obtain ⟨m, g', cap', hm, rfl, rfl, hI, hbk⟩ := hrel
        have hN : (upTo (nats s) m).length ≤ 4194309 := by have := upTo_len (nats s) m; omega
        have hsz' : w.heap.size ≤ wr.heap.size := hI.bel.size
        by_cases hml : m < s.size
        · obtain ⟨c, hc⟩ : ∃ c, c = (s[m]'hml).toNat := ⟨_, rfl⟩
          have hcell : wr.cell? ⟨w2.heap.size, m, none⟩ = some (.int .u8 (c : Int)) := by rw [hc]; exact cell_marked hbk (hrow m hml)
          have hc256 : c < 256 := by rw [hc]; exact UInt8.toNat_lt _
          have HS : Hid (upTo (nats s) (m + 1) = upTo (nats s) m ++ esc c) := by
            show upTo (nats s) (m + 1) = upTo (nats s) m ++ esc c
            rw [upTo_succ (nats s) m (by rw [nats_len]; exact hml), nats_get s m hml, hc]
          have htc : wr.cell? ⟨0, c, none⟩ = some (.int .u8 ((tabv c : Nat) : Int)) := (hI.bel.cell (p := ⟨0, c, none⟩) (by exact hB)).trans (htab c hc256)
          clear hc hrow htab
          obtain ⟨t, ht⟩ : ∃ t, t = tabv c := ⟨_, rfl⟩
          rw [← ht] at htc
          by_cases ht0 : t = 0
          · subst ht0
            by_cases hc1 : c < 32
            · have HE : Hid (esc c = [92, 48 + c / 64, 48 + c / 8 % 8, 48 + c % 8]) := by
                show esc c = _
                unfold esc
                rw [if_pos ht.symm, if_pos (by omega)]
              clear ht
              go_wp2_with (at_builtin; refine wpList_append_lies _ rfl (.tmp 55) (.tmp 66) 25 rfl w.heap.size 5 i0 (.int .u8 0) 1 1 Ybad.underlying25 hi hz0 hz1 hz2 rfl (by decide) (.slice (some ⟨g', 0, none⟩) (upTo (nats s) m).length cap') (upTo (nats s) m).length (u8s (upTo (nats s) m)) rfl (hI.own.alloc _) _ _ _ _ rfl rfl (World.news_of_block (heap_alloc_new _ _)) (by simp [Value.oneCell']) (by decide) (by unfold maxLen; omega) (by omega) (by simp; omega) _ rfl ?_; intro g1 cap1 w3 hown3 hgrow3 hat3 hlt3)
              have R := hI.round hsz' hown3 hgrow3 (HS.out.trans (by rw [HE.out])) (ys := [92, 48 + c / 64, 48 + c / 8 % 8, 48 + c % 8]) (by rfl) (by simp [u8s])
              have hbk' := kept_marked hI hbk hgrow3
              go_roundw
              case rel => exact ⟨m + 1, g1, cap1, by omega, by go_num, by rw [R.1], R.2, hbk'⟩
              case measure => simp [intOf]; omega
            · by_cases hc2 : 127 ≤ c
              · have HE : Hid (esc c = [92, 48 + c / 64, 48 + c / 8 % 8, 48 + c % 8]) := by
                  show esc c = _
                  unfold esc
                  rw [if_pos ht.symm, if_pos (by omega)]
                clear ht
                have e1 : decide ((c : Int) < 32) = false := by simp; omega
                go_wp2_with (at_builtin; refine wpList_append_lies _ rfl (.tmp 55) (.tmp 66) 25 rfl w.heap.size 5 i0 (.int .u8 0) 1 1 Ybad.underlying25 hi hz0 hz1 hz2 rfl (by decide) (.slice (some ⟨g', 0, none⟩) (upTo (nats s) m).length cap') (upTo (nats s) m).length (u8s (upTo (nats s) m)) rfl (hI.own.alloc _) _ _ _ _ rfl rfl (World.news_of_block (heap_alloc_new _ _)) (by simp [Value.oneCell']) (by decide) (by unfold maxLen; omega) (by omega) (by simp; omega) _ rfl ?_; intro g1 cap1 w3 hown3 hgrow3 hat3 hlt3)
                have R := hI.round hsz' hown3 hgrow3 (HS.out.trans (by rw [HE.out])) (ys := [92, 48 + c / 64, 48 + c / 8 % 8, 48 + c % 8]) (by rfl) (by simp [u8s])
                have hbk' := kept_marked hI hbk hgrow3
                go_roundw
                case rel => exact ⟨m + 1, g1, cap1, by omega, by go_num, by rw [R.1], R.2, hbk'⟩
                case measure => simp [intOf]; omega
              · have HE : Hid (esc c = [c]) := by
                  show esc c = [c]
                  unfold esc
                  rw [if_pos ht.symm, if_neg (by omega)]
                clear ht
                have e1 : decide ((c : Int) < 32) = false := by simp; omega
                have e2 : decide ((127 : Int) ≤ c) = false := by simp; omega
                go_wp2_with (at_builtin; refine wpList_append_lies _ rfl (.tmp 68) (.tmp 70) 25 rfl w.heap.size 5 i0 (.int .u8 0) 1 1 Ybad.underlying25 hi hz0 hz1 hz2 rfl (by decide) (.slice (some ⟨g', 0, none⟩) (upTo (nats s) m).length cap') (upTo (nats s) m).length (u8s (upTo (nats s) m)) rfl (hI.own.alloc _) _ _ _ _ rfl rfl (World.news_of_block (heap_alloc_new _ _)) (by simp [Value.oneCell']) (by decide) (by unfold maxLen; omega) (by omega) (by simp; omega) _ rfl ?_; intro g1 cap1 w3 hown3 hgrow3 hat3 hlt3)
                have R := hI.round hsz' hown3 hgrow3 (HS.out.trans (by rw [HE.out])) (ys := [c]) (by rfl) (by rfl)
                have hbk' := kept_marked hI hbk hgrow3
                go_roundw
                case rel => exact ⟨m + 1, g1, cap1, by omega, by go_num, by rw [R.1], R.2, hbk'⟩
                case measure => simp [intOf]; omega
          · have HE : Hid (esc c = [92, t]) := by
              show esc c = [92, t]
              unfold esc
              rw [if_neg (by omega), ht]
            have htb : ((t : Int) != 0) = true := by simp; omega
            clear ht
            go_wp2_with (at_builtin; refine wpList_append_lies _ rfl (.tmp 45) (.tmp 47) 25 rfl w.heap.size 5 i0 (.int .u8 0) 1 1 Ybad.underlying25 hi hz0 hz1 hz2 rfl (by decide) (.slice (some ⟨g', 0, none⟩) (upTo (nats s) m).length cap') (upTo (nats s) m).length (u8s (upTo (nats s) m)) rfl (hI.own.alloc _) _ _ _ _ rfl rfl (World.news_of_block (heap_alloc_new _ _)) (by simp [Value.oneCell']) (by decide) (by unfold maxLen; omega) (by omega) (by simp; omega) _ rfl ?_; intro g1 cap1 w3 hown3 hgrow3 hat3 hlt3)
            have R := hI.round hsz' hown3 hgrow3 (HS.out.trans (by rw [HE.out])) (ys := [92, t]) (by rfl) (by rfl)
            have hbk' := kept_marked hI hbk hgrow3
            go_roundw
            case rel => exact ⟨m + 1, g1, cap1, by omega, by go_num, by rw [R.1], R.2, hbk'⟩
            case measure => simp [intOf]; omega
        · have hme : m = s.size := by omega
          subst hme
          go_wp2_with (at_builtin; refine wpList_append_lies _ rfl (.tmp 73) (.tmp 74) 25 rfl w.heap.size 5 i0 (.int .u8 0) 1 1 Ybad.underlying25 hi hz0 hz1 hz2 rfl (by decide) (.slice (some ⟨g', 0, none⟩) (upTo (nats s) s.size).length cap') (upTo (nats s) s.size).length (u8s (upTo (nats s) s.size)) rfl (hI.own.alloc _) _ _ _ _ rfl rfl (World.news_of_block (heap_alloc_new _ _)) (by simp [Value.oneCell']) (by decide) (by unfold maxLen; omega) (by omega) (by simp; omega) _ rfl ?_; intro g1 cap1 w3 hown3 hgrow3 hat3 hlt3; have hback := hI.last hown3 (by rfl))
          go_ret
          exact ⟨by simp [quoted, nats_len], (hI.step hsz' hown3 hgrow3 (ys := [34]) (by rfl) (by rfl)).bel⟩
    · have H : Hid (ndq (s[k]'hlt).toNat = false) := hq
      clear hq
      have hne : k ≠ j0 := by
        intro e
        subst e
        rw [H.out] at Hyes
        exact absurd Hyes.out (by decide)
      go_wp2_with (go_at_call 6; refine (need_no _ _ H.out).mono ?_; rintro e w' ⟨rfl, rfl⟩)
      go_round
      case rel => exact ⟨k + 1, by omega, by go_num⟩
      case measure => simp [intOf]; omega
end Go.Proofs.YbulkeibwDoor
