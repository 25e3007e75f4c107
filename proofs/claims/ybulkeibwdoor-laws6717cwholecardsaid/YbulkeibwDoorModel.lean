/-
  THE WALKS of the law's own model, 'zzs6717cmodel': it comes to the very function of bytes to which 'headerName' comes.
-/
import Derived.Test.YbulkeibwDoorMine
import Derived.Deep.CutBlock
namespace Go.Proofs.YbulkeibwDoor
open Go.RowKit

set_option maxHeartbeats 400000 in
theorem model_no (s : ByteArray) (w : World) (hs : s.size ≤ 1048576) (hno : ∀ j (h : j < s.size), ndq (s[j]'h).toNat = false) :
    Calls Ybad.prog 5 #[.string s] w fun e w' => e = .returned (.string s) ∧ w = w' := by
  go_enter Ybad.func5, Ybad.ntmps5
  go_wp2
  go_loop [3, 4] (fun nd i => nd = .bool false ∧ ∃ k : Nat, k ≤ s.size ∧ i = .int .i64 k) (fun _ i => s.size - (intOf i).toNat)
  case atStart => exact ⟨rfl, 0, Nat.zero_le _, rfl⟩
  case round =>
    obtain ⟨rfl, k, hk, rfl⟩ := hrel
    by_cases hlt : k < s.size
    · have hn := hno k hlt
      have h' : (32 < ((s[k]'hlt).toNat : Int) ∧ ((s[k]'hlt).toNat : Int) ≠ 127 ∧ ((s[k]'hlt).toNat : Int) ≠ 34 ∧ ((s[k]'hlt).toNat : Int) ≠ 92) := by
        simp [ndq] at hn; omega
      obtain ⟨h1, h2, h3, h4⟩ := h'
      have e1 : decide (((s[k]'hlt).toNat : Int) ≤ 32) = false := by simp; omega
      have e2 : (((s[k]'hlt).toNat : Int) == 127) = false := by simp; omega
      have e3 : (((s[k]'hlt).toNat : Int) == 34) = false := by simp; omega
      have e4 : (((s[k]'hlt).toNat : Int) == 92) = false := by simp; omega
      clear h1 h2 h3 h4 hn hno
      go_wp2
      go_round
      case rel => exact ⟨rfl, k + 1, by omega, by go_num⟩
      case measure => simp [intOf]; omega
    · have he : k = s.size := by omega
      subst he
      have hd : decide ((s.size : Int) < (s.size : Int)) = false := by simp
      go_wp2
      go_ret
      exact ⟨rfl, rfl⟩

theorem World.ownsRow_made1 (w : World) : (w.alloc (.cells #[.int .u8 34] 5)).ownsRow w.heap.size 5 1 (.slice (some ⟨w.heap.size, 0, none⟩) 1 1) 1 (u8s [34]) := by
  refine ⟨rfl, .inr ⟨w.heap.size, 1, #[.int .u8 34], rfl, Nat.le_refl _, heap_alloc_new w _, by decide, by decide, rfl, rfl⟩⟩

set_option maxHeartbeats 4000000 in
set_option maxRecDepth 100000 in
theorem model_yes (s : ByteArray) (w : World) (hs : s.size ≤ 1048576) (j0 : Nat) (hj0 : j0 < s.size) (hyes : ndq (s[j0]'hj0).toNat = true) :
    Calls Ybad.prog 5 #[.string s] w fun e w' => e = .returned (.string ⟨((quoted (nats s)).map UInt8.ofNat).toArray⟩) ∧ Below w.heap.size w w' := by
  obtain ⟨i0, hi, hz0, hz1, hz2⟩ := info_parts Ybad.info5
  have Hyes : Hid (ndq (s[j0]'hj0).toNat = true) := hyes
  clear hyes
  go_enter Ybad.func5, Ybad.ntmps5
  go_upto_block 0 with fail
  go_cut [3] from 4 (fun nd wc => nd = .bool true ∧ w = wc)
  case first =>
    go_wp2
    go_loop [3, 4] (fun nd i => nd = .bool false ∧ ∃ k : Nat, k ≤ j0 ∧ i = .int .i64 k) (fun _ i => s.size - (intOf i).toNat)
    case atStart => exact ⟨rfl, 0, Nat.zero_le _, rfl⟩
    case round =>
      obtain ⟨rfl, k, hk, rfl⟩ := hrel
      have hlt : k < s.size := by omega
      rcases Bool.eq_false_or_eq_true (ndq (s[k]'hlt).toNat) with hq | hq
      · have h' : (((s[k]'hlt).toNat : Int) ≤ 32) ∨ (32 < ((s[k]'hlt).toNat : Int) ∧ ((s[k]'hlt).toNat : Int) = 127) ∨ (32 < ((s[k]'hlt).toNat : Int) ∧ ((s[k]'hlt).toNat : Int) ≠ 127 ∧ ((s[k]'hlt).toNat : Int) = 34) ∨ (32 < ((s[k]'hlt).toNat : Int) ∧ ((s[k]'hlt).toNat : Int) ≠ 127 ∧ ((s[k]'hlt).toNat : Int) ≠ 34 ∧ ((s[k]'hlt).toNat : Int) = 92) := by
          simp [ndq] at hq; omega
        clear hq
        rcases h' with h1 | ⟨h1, h2⟩ | ⟨h1, h2, h3⟩ | ⟨h1, h2, h3, h4⟩
        · go_wp2
          go_meet
          exact ⟨rfl, rfl⟩
        · have e1 : decide (((s[k]'hlt).toNat : Int) ≤ 32) = false := by simp; omega
          have e2 : (((s[k]'hlt).toNat : Int) == 127) = true := by simp; omega
          clear h1 h2
          go_wp2
          go_meet
          exact ⟨rfl, rfl⟩
        · have e1 : decide (((s[k]'hlt).toNat : Int) ≤ 32) = false := by simp; omega
          have e2 : (((s[k]'hlt).toNat : Int) == 127) = false := by simp; omega
          have e3 : (((s[k]'hlt).toNat : Int) == 34) = true := by simp; omega
          clear h1 h2 h3
          go_wp2
          go_meet
          exact ⟨rfl, rfl⟩
        · have e1 : decide (((s[k]'hlt).toNat : Int) ≤ 32) = false := by simp; omega
          have e2 : (((s[k]'hlt).toNat : Int) == 127) = false := by simp; omega
          have e3 : (((s[k]'hlt).toNat : Int) == 34) = false := by simp; omega
          have e4 : (((s[k]'hlt).toNat : Int) == 92) = true := by simp; omega
          clear h1 h2 h3 h4
          go_wp2
          go_meet
          exact ⟨rfl, rfl⟩
      · have hne : k ≠ j0 := by
          intro e
          subst e
          rw [hq] at Hyes
          exact absurd Hyes.out (by decide)
        have h' : (32 < ((s[k]'hlt).toNat : Int) ∧ ((s[k]'hlt).toNat : Int) ≠ 127 ∧ ((s[k]'hlt).toNat : Int) ≠ 34 ∧ ((s[k]'hlt).toNat : Int) ≠ 92) := by
          simp [ndq] at hq; omega
        obtain ⟨h1, h2, h3, h4⟩ := h'
        have e1 : decide (((s[k]'hlt).toNat : Int) ≤ 32) = false := by simp; omega
        have e2 : (((s[k]'hlt).toNat : Int) == 127) = false := by simp; omega
        have e3 : (((s[k]'hlt).toNat : Int) == 34) = false := by simp; omega
        have e4 : (((s[k]'hlt).toNat : Int) == 92) = false := by simp; omega
        clear h1 h2 h3 h4 hq
        go_wp2
        go_round
        case rel => exact ⟨rfl, k + 1, by omega, by go_num⟩
        case measure => simp [intOf]; omega
  case rest =>
    obtain ⟨rfl, rfl⟩ := hcut
    go_wp2
    have hin : Inv w.heap.size w (w.alloc (.cells #[.int .u8 34] 5)) (.slice (some ⟨w.heap.size, 0, none⟩) 1 1) (upTo (nats s) 0) := by
      rw [upTo_zero]
      exact ⟨World.ownsRow_made1 w, (Below.refl _ _).alloc (Nat.le_refl _) _⟩
    go_loopw [6, 7] (fun v i wr => ∃ (k g cap : Nat), k ≤ s.size ∧ i = .int .i64 k ∧ v = .slice (some ⟨g, 0, none⟩) (upTo (nats s) k).length cap ∧ Inv w.heap.size w wr v (upTo (nats s) k))
      (fun _ i _ => s.size - (intOf i).toNat)
    case atStart => exact ⟨0, w.heap.size, 1, Nat.zero_le _, rfl, by rw [upTo_zero]; rfl, hin⟩
    case round =>
      clear hin
      obtain ⟨m, g', cap', hm, rfl, rfl, hI⟩ := hrel
      have hN : (upTo (nats s) m).length ≤ 4194309 := by have := upTo_len (nats s) m; omega
      have hsz' : w.heap.size ≤ wr.heap.size := hI.bel.size
      by_cases hml : m < s.size
      · have HS : Hid (upTo (nats s) (m + 1) = upTo (nats s) m ++ esc (s[m]'hml).toNat) := by
          show upTo (nats s) (m + 1) = upTo (nats s) m ++ esc (s[m]'hml).toNat
          rw [upTo_succ (nats s) m (by rw [nats_len]; exact hml), nats_get s m hml]
        have h256 : (s[m]'hml).toNat < 256 := UInt8.toNat_lt _
        by_cases c7 : (s[m]'hml).toNat = 7
        · have HE : Hid (esc (s[m]'hml).toNat = [92, 97]) := by rw [c7]; exact (by decide : esc 7 = [92, 97])
          have q7 : ((((s[m]'hml).toNat : Nat) : Int) == 7) = true := by simp; omega
          clear c7
          go_wp2_with (at_builtin; refine wpList_append_lies _ rfl (.tmp 71) (.tmp 72) 25 rfl w.heap.size 5 i0 (.int .u8 0) 1 1 Ybad.underlying25 hi hz0 hz1 hz2 rfl (by decide) (.slice (some ⟨g', 0, none⟩) (upTo (nats s) m).length cap') (upTo (nats s) m).length (u8s (upTo (nats s) m)) rfl (hI.own.alloc _) _ _ _ _ rfl rfl (World.news_of_block (heap_alloc_new _ _)) (by simp [Value.oneCell']) (by decide) (by unfold maxLen; omega) (by omega) (by simp; omega) _ rfl ?_; intro g1 cap1 w3 hown3 hgrow3 hat3 hlt3)
          have R := hI.round hsz' hown3 hgrow3 (HS.out.trans (by rw [HE.out])) (ys := [92, 97]) (by rfl) (by rfl)
          go_roundw
          case rel => exact ⟨m + 1, g1, cap1, by omega, by go_num, by rw [R.1], R.2⟩
          case measure => simp [intOf]; omega
        · skip
          by_cases c8 : (s[m]'hml).toNat = 8
          · have HE : Hid (esc (s[m]'hml).toNat = [92, 98]) := by rw [c8]; exact (by decide : esc 8 = [92, 98])
            have q7 : ((((s[m]'hml).toNat : Nat) : Int) == 7) = false := by simp; omega
            have q8 : ((((s[m]'hml).toNat : Nat) : Int) == 8) = true := by simp; omega
            clear c7 c8
            go_wp2_with (at_builtin; refine wpList_append_lies _ rfl (.tmp 76) (.tmp 77) 25 rfl w.heap.size 5 i0 (.int .u8 0) 1 1 Ybad.underlying25 hi hz0 hz1 hz2 rfl (by decide) (.slice (some ⟨g', 0, none⟩) (upTo (nats s) m).length cap') (upTo (nats s) m).length (u8s (upTo (nats s) m)) rfl (hI.own.alloc _) _ _ _ _ rfl rfl (World.news_of_block (heap_alloc_new _ _)) (by simp [Value.oneCell']) (by decide) (by unfold maxLen; omega) (by omega) (by simp; omega) _ rfl ?_; intro g1 cap1 w3 hown3 hgrow3 hat3 hlt3)
            have R := hI.round hsz' hown3 hgrow3 (HS.out.trans (by rw [HE.out])) (ys := [92, 98]) (by rfl) (by rfl)
            go_roundw
            case rel => exact ⟨m + 1, g1, cap1, by omega, by go_num, by rw [R.1], R.2⟩
            case measure => simp [intOf]; omega
          · skip
            by_cases c9 : (s[m]'hml).toNat = 9
            · have HE : Hid (esc (s[m]'hml).toNat = [92, 116]) := by rw [c9]; exact (by decide : esc 9 = [92, 116])
              have q7 : ((((s[m]'hml).toNat : Nat) : Int) == 7) = false := by simp; omega
              have q8 : ((((s[m]'hml).toNat : Nat) : Int) == 8) = false := by simp; omega
              have q9 : ((((s[m]'hml).toNat : Nat) : Int) == 9) = true := by simp; omega
              clear c7 c8 c9
              go_wp2_with (at_builtin; refine wpList_append_lies _ rfl (.tmp 81) (.tmp 82) 25 rfl w.heap.size 5 i0 (.int .u8 0) 1 1 Ybad.underlying25 hi hz0 hz1 hz2 rfl (by decide) (.slice (some ⟨g', 0, none⟩) (upTo (nats s) m).length cap') (upTo (nats s) m).length (u8s (upTo (nats s) m)) rfl (hI.own.alloc _) _ _ _ _ rfl rfl (World.news_of_block (heap_alloc_new _ _)) (by simp [Value.oneCell']) (by decide) (by unfold maxLen; omega) (by omega) (by simp; omega) _ rfl ?_; intro g1 cap1 w3 hown3 hgrow3 hat3 hlt3)
              have R := hI.round hsz' hown3 hgrow3 (HS.out.trans (by rw [HE.out])) (ys := [92, 116]) (by rfl) (by rfl)
              go_roundw
              case rel => exact ⟨m + 1, g1, cap1, by omega, by go_num, by rw [R.1], R.2⟩
              case measure => simp [intOf]; omega
            · skip
              by_cases c10 : (s[m]'hml).toNat = 10
              · have HE : Hid (esc (s[m]'hml).toNat = [92, 110]) := by rw [c10]; exact (by decide : esc 10 = [92, 110])
                have q7 : ((((s[m]'hml).toNat : Nat) : Int) == 7) = false := by simp; omega
                have q8 : ((((s[m]'hml).toNat : Nat) : Int) == 8) = false := by simp; omega
                have q9 : ((((s[m]'hml).toNat : Nat) : Int) == 9) = false := by simp; omega
                have q10 : ((((s[m]'hml).toNat : Nat) : Int) == 10) = true := by simp; omega
                clear c7 c8 c9 c10
                go_wp2_with (at_builtin; refine wpList_append_lies _ rfl (.tmp 86) (.tmp 87) 25 rfl w.heap.size 5 i0 (.int .u8 0) 1 1 Ybad.underlying25 hi hz0 hz1 hz2 rfl (by decide) (.slice (some ⟨g', 0, none⟩) (upTo (nats s) m).length cap') (upTo (nats s) m).length (u8s (upTo (nats s) m)) rfl (hI.own.alloc _) _ _ _ _ rfl rfl (World.news_of_block (heap_alloc_new _ _)) (by simp [Value.oneCell']) (by decide) (by unfold maxLen; omega) (by omega) (by simp; omega) _ rfl ?_; intro g1 cap1 w3 hown3 hgrow3 hat3 hlt3)
                have R := hI.round hsz' hown3 hgrow3 (HS.out.trans (by rw [HE.out])) (ys := [92, 110]) (by rfl) (by rfl)
                go_roundw
                case rel => exact ⟨m + 1, g1, cap1, by omega, by go_num, by rw [R.1], R.2⟩
                case measure => simp [intOf]; omega
              · skip
                by_cases c11 : (s[m]'hml).toNat = 11
                · have HE : Hid (esc (s[m]'hml).toNat = [92, 118]) := by rw [c11]; exact (by decide : esc 11 = [92, 118])
                  have q7 : ((((s[m]'hml).toNat : Nat) : Int) == 7) = false := by simp; omega
                  have q8 : ((((s[m]'hml).toNat : Nat) : Int) == 8) = false := by simp; omega
                  have q9 : ((((s[m]'hml).toNat : Nat) : Int) == 9) = false := by simp; omega
                  have q10 : ((((s[m]'hml).toNat : Nat) : Int) == 10) = false := by simp; omega
                  have q11 : ((((s[m]'hml).toNat : Nat) : Int) == 11) = true := by simp; omega
                  clear c7 c8 c9 c10 c11
                  go_wp2_with (at_builtin; refine wpList_append_lies _ rfl (.tmp 91) (.tmp 92) 25 rfl w.heap.size 5 i0 (.int .u8 0) 1 1 Ybad.underlying25 hi hz0 hz1 hz2 rfl (by decide) (.slice (some ⟨g', 0, none⟩) (upTo (nats s) m).length cap') (upTo (nats s) m).length (u8s (upTo (nats s) m)) rfl (hI.own.alloc _) _ _ _ _ rfl rfl (World.news_of_block (heap_alloc_new _ _)) (by simp [Value.oneCell']) (by decide) (by unfold maxLen; omega) (by omega) (by simp; omega) _ rfl ?_; intro g1 cap1 w3 hown3 hgrow3 hat3 hlt3)
                  have R := hI.round hsz' hown3 hgrow3 (HS.out.trans (by rw [HE.out])) (ys := [92, 118]) (by rfl) (by rfl)
                  go_roundw
                  case rel => exact ⟨m + 1, g1, cap1, by omega, by go_num, by rw [R.1], R.2⟩
                  case measure => simp [intOf]; omega
                · skip
                  by_cases c12 : (s[m]'hml).toNat = 12
                  · have HE : Hid (esc (s[m]'hml).toNat = [92, 102]) := by rw [c12]; exact (by decide : esc 12 = [92, 102])
                    have q7 : ((((s[m]'hml).toNat : Nat) : Int) == 7) = false := by simp; omega
                    have q8 : ((((s[m]'hml).toNat : Nat) : Int) == 8) = false := by simp; omega
                    have q9 : ((((s[m]'hml).toNat : Nat) : Int) == 9) = false := by simp; omega
                    have q10 : ((((s[m]'hml).toNat : Nat) : Int) == 10) = false := by simp; omega
                    have q11 : ((((s[m]'hml).toNat : Nat) : Int) == 11) = false := by simp; omega
                    have q12 : ((((s[m]'hml).toNat : Nat) : Int) == 12) = true := by simp; omega
                    clear c7 c8 c9 c10 c11 c12
                    go_wp2_with (at_builtin; refine wpList_append_lies _ rfl (.tmp 96) (.tmp 97) 25 rfl w.heap.size 5 i0 (.int .u8 0) 1 1 Ybad.underlying25 hi hz0 hz1 hz2 rfl (by decide) (.slice (some ⟨g', 0, none⟩) (upTo (nats s) m).length cap') (upTo (nats s) m).length (u8s (upTo (nats s) m)) rfl (hI.own.alloc _) _ _ _ _ rfl rfl (World.news_of_block (heap_alloc_new _ _)) (by simp [Value.oneCell']) (by decide) (by unfold maxLen; omega) (by omega) (by simp; omega) _ rfl ?_; intro g1 cap1 w3 hown3 hgrow3 hat3 hlt3)
                    have R := hI.round hsz' hown3 hgrow3 (HS.out.trans (by rw [HE.out])) (ys := [92, 102]) (by rfl) (by rfl)
                    go_roundw
                    case rel => exact ⟨m + 1, g1, cap1, by omega, by go_num, by rw [R.1], R.2⟩
                    case measure => simp [intOf]; omega
                  · skip
                    by_cases c13 : (s[m]'hml).toNat = 13
                    · have HE : Hid (esc (s[m]'hml).toNat = [92, 114]) := by rw [c13]; exact (by decide : esc 13 = [92, 114])
                      have q7 : ((((s[m]'hml).toNat : Nat) : Int) == 7) = false := by simp; omega
                      have q8 : ((((s[m]'hml).toNat : Nat) : Int) == 8) = false := by simp; omega
                      have q9 : ((((s[m]'hml).toNat : Nat) : Int) == 9) = false := by simp; omega
                      have q10 : ((((s[m]'hml).toNat : Nat) : Int) == 10) = false := by simp; omega
                      have q11 : ((((s[m]'hml).toNat : Nat) : Int) == 11) = false := by simp; omega
                      have q12 : ((((s[m]'hml).toNat : Nat) : Int) == 12) = false := by simp; omega
                      have q13 : ((((s[m]'hml).toNat : Nat) : Int) == 13) = true := by simp; omega
                      clear c7 c8 c9 c10 c11 c12 c13
                      go_wp2_with (at_builtin; refine wpList_append_lies _ rfl (.tmp 101) (.tmp 102) 25 rfl w.heap.size 5 i0 (.int .u8 0) 1 1 Ybad.underlying25 hi hz0 hz1 hz2 rfl (by decide) (.slice (some ⟨g', 0, none⟩) (upTo (nats s) m).length cap') (upTo (nats s) m).length (u8s (upTo (nats s) m)) rfl (hI.own.alloc _) _ _ _ _ rfl rfl (World.news_of_block (heap_alloc_new _ _)) (by simp [Value.oneCell']) (by decide) (by unfold maxLen; omega) (by omega) (by simp; omega) _ rfl ?_; intro g1 cap1 w3 hown3 hgrow3 hat3 hlt3)
                      have R := hI.round hsz' hown3 hgrow3 (HS.out.trans (by rw [HE.out])) (ys := [92, 114]) (by rfl) (by rfl)
                      go_roundw
                      case rel => exact ⟨m + 1, g1, cap1, by omega, by go_num, by rw [R.1], R.2⟩
                      case measure => simp [intOf]; omega
                    · skip
                      by_cases c34 : (s[m]'hml).toNat = 34
                      · have HE : Hid (esc (s[m]'hml).toNat = [92, 34]) := by rw [c34]; exact (by decide : esc 34 = [92, 34])
                        have q7 : ((((s[m]'hml).toNat : Nat) : Int) == 7) = false := by simp; omega
                        have q8 : ((((s[m]'hml).toNat : Nat) : Int) == 8) = false := by simp; omega
                        have q9 : ((((s[m]'hml).toNat : Nat) : Int) == 9) = false := by simp; omega
                        have q10 : ((((s[m]'hml).toNat : Nat) : Int) == 10) = false := by simp; omega
                        have q11 : ((((s[m]'hml).toNat : Nat) : Int) == 11) = false := by simp; omega
                        have q12 : ((((s[m]'hml).toNat : Nat) : Int) == 12) = false := by simp; omega
                        have q13 : ((((s[m]'hml).toNat : Nat) : Int) == 13) = false := by simp; omega
                        have q34 : ((((s[m]'hml).toNat : Nat) : Int) == 34) = true := by simp; omega
                        clear c7 c8 c9 c10 c11 c12 c13 c34
                        go_wp2_with (at_builtin; refine wpList_append_lies _ rfl (.tmp 106) (.tmp 107) 25 rfl w.heap.size 5 i0 (.int .u8 0) 1 1 Ybad.underlying25 hi hz0 hz1 hz2 rfl (by decide) (.slice (some ⟨g', 0, none⟩) (upTo (nats s) m).length cap') (upTo (nats s) m).length (u8s (upTo (nats s) m)) rfl (hI.own.alloc _) _ _ _ _ rfl rfl (World.news_of_block (heap_alloc_new _ _)) (by simp [Value.oneCell']) (by decide) (by unfold maxLen; omega) (by omega) (by simp; omega) _ rfl ?_; intro g1 cap1 w3 hown3 hgrow3 hat3 hlt3)
                        have R := hI.round hsz' hown3 hgrow3 (HS.out.trans (by rw [HE.out])) (ys := [92, 34]) (by rfl) (by rfl)
                        go_roundw
                        case rel => exact ⟨m + 1, g1, cap1, by omega, by go_num, by rw [R.1], R.2⟩
                        case measure => simp [intOf]; omega
                      · skip
                        by_cases c92 : (s[m]'hml).toNat = 92
                        · have HE : Hid (esc (s[m]'hml).toNat = [92, 92]) := by rw [c92]; exact (by decide : esc 92 = [92, 92])
                          have q7 : ((((s[m]'hml).toNat : Nat) : Int) == 7) = false := by simp; omega
                          have q8 : ((((s[m]'hml).toNat : Nat) : Int) == 8) = false := by simp; omega
                          have q9 : ((((s[m]'hml).toNat : Nat) : Int) == 9) = false := by simp; omega
                          have q10 : ((((s[m]'hml).toNat : Nat) : Int) == 10) = false := by simp; omega
                          have q11 : ((((s[m]'hml).toNat : Nat) : Int) == 11) = false := by simp; omega
                          have q12 : ((((s[m]'hml).toNat : Nat) : Int) == 12) = false := by simp; omega
                          have q13 : ((((s[m]'hml).toNat : Nat) : Int) == 13) = false := by simp; omega
                          have q34 : ((((s[m]'hml).toNat : Nat) : Int) == 34) = false := by simp; omega
                          have q92 : ((((s[m]'hml).toNat : Nat) : Int) == 92) = true := by simp; omega
                          clear c7 c8 c9 c10 c11 c12 c13 c34 c92
                          go_wp2_with (at_builtin; refine wpList_append_lies _ rfl (.tmp 111) (.tmp 112) 25 rfl w.heap.size 5 i0 (.int .u8 0) 1 1 Ybad.underlying25 hi hz0 hz1 hz2 rfl (by decide) (.slice (some ⟨g', 0, none⟩) (upTo (nats s) m).length cap') (upTo (nats s) m).length (u8s (upTo (nats s) m)) rfl (hI.own.alloc _) _ _ _ _ rfl rfl (World.news_of_block (heap_alloc_new _ _)) (by simp [Value.oneCell']) (by decide) (by unfold maxLen; omega) (by omega) (by simp; omega) _ rfl ?_; intro g1 cap1 w3 hown3 hgrow3 hat3 hlt3)
                          have R := hI.round hsz' hown3 hgrow3 (HS.out.trans (by rw [HE.out])) (ys := [92, 92]) (by rfl) (by rfl)
                          go_roundw
                          case rel => exact ⟨m + 1, g1, cap1, by omega, by go_num, by rw [R.1], R.2⟩
                          case measure => simp [intOf]; omega
                        · skip
                          have ht : tabv (s[m]'hml).toNat = 0 := by unfold tabv; simp [c7, c8, c9, c10, c11, c12, c13, c34, c92]
                          have q7 : ((((s[m]'hml).toNat : Nat) : Int) == 7) = false := by simp; omega
                          have q8 : ((((s[m]'hml).toNat : Nat) : Int) == 8) = false := by simp; omega
                          have q9 : ((((s[m]'hml).toNat : Nat) : Int) == 9) = false := by simp; omega
                          have q10 : ((((s[m]'hml).toNat : Nat) : Int) == 10) = false := by simp; omega
                          have q11 : ((((s[m]'hml).toNat : Nat) : Int) == 11) = false := by simp; omega
                          have q12 : ((((s[m]'hml).toNat : Nat) : Int) == 12) = false := by simp; omega
                          have q13 : ((((s[m]'hml).toNat : Nat) : Int) == 13) = false := by simp; omega
                          have q34 : ((((s[m]'hml).toNat : Nat) : Int) == 34) = false := by simp; omega
                          have q92 : ((((s[m]'hml).toNat : Nat) : Int) == 92) = false := by simp; omega
                          clear c7 c8 c9 c10 c11 c12 c13 c34 c92
                          by_cases hc1 : (s[m]'hml).toNat < 32
                          · have HE : Hid (esc (s[m]'hml).toNat = [92, 48 + (s[m]'hml).toNat / 64, 48 + (s[m]'hml).toNat / 8 % 8, 48 + (s[m]'hml).toNat % 8]) := by
                              show esc (s[m]'hml).toNat = _
                              unfold esc
                              rw [if_pos ht, if_pos (by omega)]
                            clear ht
                            go_wp2_with (at_builtin; refine wpList_append_lies _ rfl (.tmp 52) (.tmp 63) 25 rfl w.heap.size 5 i0 (.int .u8 0) 1 1 Ybad.underlying25 hi hz0 hz1 hz2 rfl (by decide) (.slice (some ⟨g', 0, none⟩) (upTo (nats s) m).length cap') (upTo (nats s) m).length (u8s (upTo (nats s) m)) rfl (hI.own.alloc _) _ _ _ _ rfl rfl (World.news_of_block (heap_alloc_new _ _)) (by simp [Value.oneCell']) (by decide) (by unfold maxLen; omega) (by omega) (by simp; omega) _ rfl ?_; intro g1 cap1 w3 hown3 hgrow3 hat3 hlt3)
                            have R := hI.round hsz' hown3 hgrow3 (HS.out.trans (by rw [HE.out])) (ys := [92, 48 + (s[m]'hml).toNat / 64, 48 + (s[m]'hml).toNat / 8 % 8, 48 + (s[m]'hml).toNat % 8]) (by rfl) (by simp [u8s])
                            go_roundw
                            case rel => exact ⟨m + 1, g1, cap1, by omega, by go_num, by rw [R.1], R.2⟩
                            case measure => simp [intOf]; omega
                          · by_cases hc2 : 127 ≤ (s[m]'hml).toNat
                            · have HE : Hid (esc (s[m]'hml).toNat = [92, 48 + (s[m]'hml).toNat / 64, 48 + (s[m]'hml).toNat / 8 % 8, 48 + (s[m]'hml).toNat % 8]) := by
                                show esc (s[m]'hml).toNat = _
                                unfold esc
                                rw [if_pos ht, if_pos (by omega)]
                              clear ht
                              have e1 : decide ((((s[m]'hml).toNat : Nat) : Int) < 32) = false := by simp; omega
                              go_wp2_with (at_builtin; refine wpList_append_lies _ rfl (.tmp 52) (.tmp 63) 25 rfl w.heap.size 5 i0 (.int .u8 0) 1 1 Ybad.underlying25 hi hz0 hz1 hz2 rfl (by decide) (.slice (some ⟨g', 0, none⟩) (upTo (nats s) m).length cap') (upTo (nats s) m).length (u8s (upTo (nats s) m)) rfl (hI.own.alloc _) _ _ _ _ rfl rfl (World.news_of_block (heap_alloc_new _ _)) (by simp [Value.oneCell']) (by decide) (by unfold maxLen; omega) (by omega) (by simp; omega) _ rfl ?_; intro g1 cap1 w3 hown3 hgrow3 hat3 hlt3)
                              have R := hI.round hsz' hown3 hgrow3 (HS.out.trans (by rw [HE.out])) (ys := [92, 48 + (s[m]'hml).toNat / 64, 48 + (s[m]'hml).toNat / 8 % 8, 48 + (s[m]'hml).toNat % 8]) (by rfl) (by simp [u8s])
                              go_roundw
                              case rel => exact ⟨m + 1, g1, cap1, by omega, by go_num, by rw [R.1], R.2⟩
                              case measure => simp [intOf]; omega
                            · have HE : Hid (esc (s[m]'hml).toNat = [(s[m]'hml).toNat]) := by
                                show esc (s[m]'hml).toNat = _
                                unfold esc
                                rw [if_pos ht, if_neg (by omega)]
                              clear ht
                              have e1 : decide ((((s[m]'hml).toNat : Nat) : Int) < 32) = false := by simp; omega
                              have e2 : decide (127 ≤ (((s[m]'hml).toNat : Nat) : Int)) = false := by simp; omega
                              go_wp2_with (at_builtin; refine wpList_append_lies _ rfl (.tmp 65) (.tmp 67) 25 rfl w.heap.size 5 i0 (.int .u8 0) 1 1 Ybad.underlying25 hi hz0 hz1 hz2 rfl (by decide) (.slice (some ⟨g', 0, none⟩) (upTo (nats s) m).length cap') (upTo (nats s) m).length (u8s (upTo (nats s) m)) rfl (hI.own.alloc _) _ _ _ _ rfl rfl (World.news_of_block (heap_alloc_new _ _)) (by simp [Value.oneCell']) (by decide) (by unfold maxLen; omega) (by omega) (by simp; omega) _ rfl ?_; intro g1 cap1 w3 hown3 hgrow3 hat3 hlt3)
                              have R := hI.round hsz' hown3 hgrow3 (HS.out.trans (by rw [HE.out])) (ys := [(s[m]'hml).toNat]) (by rfl) (by rfl)
                              go_roundw
                              case rel => exact ⟨m + 1, g1, cap1, by omega, by go_num, by rw [R.1], R.2⟩
                              case measure => simp [intOf]; omega
      · have hme : m = s.size := by omega
        subst hme
        go_wp2_with (at_builtin; refine wpList_append_lies _ rfl (.tmp 114) (.tmp 115) 25 rfl w.heap.size 5 i0 (.int .u8 0) 1 1 Ybad.underlying25 hi hz0 hz1 hz2 rfl (by decide) (.slice (some ⟨g', 0, none⟩) (upTo (nats s) s.size).length cap') (upTo (nats s) s.size).length (u8s (upTo (nats s) s.size)) rfl (hI.own.alloc _) _ _ _ _ rfl rfl (World.news_of_block (heap_alloc_new _ _)) (by simp [Value.oneCell']) (by decide) (by unfold maxLen; omega) (by omega) (by simp; omega) _ rfl ?_; intro g1 cap1 w3 hown3 hgrow3 hat3 hlt3; have hback := hI.last hown3 (by rfl))
        go_ret
        exact ⟨by simp [quoted, nats_len], (hI.step hsz' hown3 hgrow3 (ys := [34]) (by rfl) (by rfl)).bel⟩
end Go.Proofs.YbulkeibwDoor
