/-
  slices.stableCmpFunc and slices.SortStableFunc over pointers, walked.
-/
import Derived.Test.YbulkeidmSymC
import Derived.Test.YbulkeidmBlk
namespace Go.Proofs.Ybulkeidm
open Go.RowKit

set_option maxHeartbeats 1000000 in
set_option maxRecDepth 100000 in
/-- insertionSort over nothing. -/
theorem ins_none (sl : Value) (a b : Nat) (w : World) (hb : b ≤ a) (hbig : a ≤ 140737488355328) :
    Calls Yba.prog 19 #[sl, .int .i64 (a : Nat), .int .i64 (b : Nat), .func (.func 9) #[] #[]] w fun e w' => e = .returned (.tuple #[]) ∧ w = w' := by
  have hd : decide ((a : Int) + 1 < (b : Int)) = false := by simp; omega
  go_enter Yba.func19, Yba.ntmps19
  go_wp2
  go_loopw [8] (fun iv wi => iv = .int .i64 ((a : Int) + 1) ∧ w = wi) (fun _ _ => 0)
  case atStart => exact ⟨rfl, rfl⟩
  case round =>
    obtain ⟨rfl, rfl⟩ := hrel
    go_wp2
    go_end0
    exact ⟨rfl, rfl⟩

theorem ins_int (g n c : Nat) (av bv : Int) (a b : Nat) (kf kl : Nat → Int) (L : List Nat) (w0 w : World) (h : Srt w0 w g kf kl L) (hn : L.length = n) (hbig : n ≤ 140737488355328) (ha : av = a) (hb : bv = b) (hab : a ≤ b) (hbn : b ≤ n) :
    Calls Yba.prog 19 #[.slice (some ⟨g, 0, none⟩) n c, .int .i64 av, .int .i64 bv, .func (.func 9) #[] #[]] w fun e w' => e = .returned (.tuple #[]) ∧ Srt w0 w' g kf kl (isortSeg (ltd kf kl) a b L) := by
  subst ha hb
  rcases Nat.lt_or_ge a b with h1 | h1
  · exact ins_any g n c a b kf kl L w0 w h hn hbig h1 hbn
  · obtain rfl : a = b := by omega
    refine (ins_none _ a a w (Nat.le_refl _) (by omega)).mono ?_
    rintro e w' ⟨rfl, rfl⟩
    exact ⟨rfl, by rw [isortSeg_none _ _ (by omega)]; exact h⟩

set_option maxHeartbeats 2000000 in
set_option maxRecDepth 100000 in
theorem stable_any (g n c : Nat) (kf kl : Nat → Int) (idx : Nat → Nat) (X : List Nat) (w0 w : World) (h : Srt w0 w g kf kl X) (hn : X.length = n) (hbig : n ≤ 140737488355328) (hX : X.Pairwise (fun a b => idx a < idx b)) :
    Calls Yba.prog 14 #[.slice (some ⟨g, 0, none⟩) n c, .int .i64 (n : Nat), .func (.func 9) #[] #[]] w fun e w' => e = .returned (.tuple #[]) ∧ Srt w0 w' g kf kl (isort (ltd kf kl) X) := by
  have Hn : Hid (X.length = n) := hn
  have hs := lessEv_swo kf kl
  clear hn
  go_enter Yba.func14, Yba.ntmps14
  go_wp2
  go_loopw [7, 8] (fun av bv wi => ∃ (t a b : Nat), av = .int .i64 (a : Nat) ∧ bv = .int .i64 (b : Nat) ∧ Hid (a = t * 20) ∧ Hid (b = a + 20) ∧ a ≤ n ∧ Srt w0 wi g kf kl (don (ltd kf kl) 20 t X ++ X.drop (t * 20))) (fun av _ _ => n - (intOf av).toNat)
  case atStart => exact ⟨0, 0, 20, rfl, rfl, by simp [Hid], by simp [Hid], by omega, by simpa [don] using h⟩
  case round =>
    clear h
    obtain ⟨t, a, b, rfl, rfl, HA, HB, han, hS⟩ := hrel
    have l1 : a < b := by have := HB.out; omega
    by_cases hbn : b ≤ n
    · have HS := ins_int g n c (a : Int) (b : Int) a b kf kl _ w0 wr hS (by have := HA.out; have := Hn.out; rw [List.length_append, don_len, List.length_drop]; omega) hbig rfl rfl (by omega) hbn
      have HE : Hid (isortSeg (ltd kf kl) a b (don (ltd kf kl) 20 t X ++ X.drop (t * 20)) = don (ltd kf kl) 20 (t + 1) X ++ X.drop ((t + 1) * 20)) := by
        show _ = _
        have h1 := HA.out
        have h2 := HB.out
        have h3 := Hn.out
        rw [h1, don_seg 20 t X (by omega) b (by omega), Nat.succ_mul]
      have HN : Hid (b = (t + 1) * 20) := by show b = _; have := HA.out; have := HB.out; omega
      clear hS HA
      go_wp2_with fail
      refine HS.mono ?_
      clear HS
      rintro e w1 ⟨rfl, hS1⟩
      rw [HE.out] at hS1
      go_wp2
      go_roundw
      case rel => exact ⟨t + 1, b, b + 20, rfl, by go_num, HN, rfl, hbn, hS1⟩
      case measure => simp [intOf]; omega
    · have hd : decide (b ≤ n) = false := by simp; omega
      have HS := ins_int g n c (a : Int) (n : Int) a n kf kl _ w0 wr hS (by have := HA.out; have := Hn.out; rw [List.length_append, don_len, List.length_drop]; omega) hbig rfl rfl han (Nat.le_refl _)
      have HE : Hid (isortSeg (ltd kf kl) a n (don (ltd kf kl) 20 t X ++ X.drop (t * 20)) = don (ltd kf kl) 20 (t + 1) X) := by
        show _ = _
        have h1 := HA.out
        have h2 := HB.out
        have h3 := Hn.out
        rw [h1, don_seg 20 t X (by omega) n (by omega), List.drop_eq_nil_of_le (by omega), List.append_nil]
      have HT : Hid (n ≤ (t + 1) * 20) := by show n ≤ _; have := HA.out; have := HB.out; omega
      clear hS HA HB hbn l1 han
      go_wp2_with fail
      refine HS.mono ?_
      clear HS
      rintro e w1 ⟨rfl, hS1⟩
      rw [HE.out] at hS1
      clear HE hd
      go_wp2
      go_loopw [6] (fun bv wi => ∃ (bs T : Nat), bv = .int .i64 (bs : Nat) ∧ 0 < bs ∧ bs ≤ 2 * n + 20 ∧ Hid (n ≤ T * bs) ∧ Srt w0 wi g kf kl (don (ltd kf kl) bs T X)) (fun bv _ => 2 * n + 20 - (intOf bv).toNat)
      case atStart => exact ⟨20, t + 1, rfl, by omega, by omega, HT, hS1⟩
      case round =>
        clear hS1 HT
        clear t
        obtain ⟨bs, T, rfl, hbs, hbs2, HT, hS⟩ := hrel
        by_cases hlt : bs < n
        · have Hww : Hid (Srt w0 wr g kf kl (don (ltd kf kl) bs T X)) := hS
          clear hS
          go_wp2
          go_loopw [7, 8] (fun av bv wi => ∃ (t a b T : Nat), av = .int .i64 (a : Nat) ∧ bv = .int .i64 (b : Nat) ∧ Hid (a = t * (2 * bs)) ∧ Hid (b = a + 2 * bs) ∧ a ≤ n ∧ Hid ((X.drop a).length ≤ T * bs) ∧ Srt w0 wi g kf kl (don (ltd kf kl) (2 * bs) t X ++ don (ltd kf kl) bs T (X.drop a))) (fun av _ _ => n - (intOf av).toNat)
          case atStart => exact ⟨0, 0, 2 * bs, T, rfl, by go_num, by simp [Hid], by simp [Hid], by omega, by have := HT.out; have := Hn.out; simp [Hid]; omega, by simpa [don] using Hww.out⟩
          case round =>
            clear Hww HT T
            obtain ⟨t, a, b, T, rfl, rfl, HA, HB, han, HT, hS⟩ := hrel
            have hla : (don (ltd kf kl) (2 * bs) t X).length = a := by rw [don_len]; have := HA.out; have := Hn.out; omega
            have HLA : Hid ((don (ltd kf kl) (2 * bs) t X).length = a) := hla
            clear hla
            by_cases hbn : b ≤ n
            · have hZ : bs < (X.drop a).length := by rw [List.length_drop]; have := Hn.out; have := HB.out; omega
              obtain ⟨T', hE, hT'⟩ := don_two (lt := ltd kf kl) bs T (X.drop a) hbs hZ HT.out
              have hUV : ((X.drop a).take bs ++ ((X.drop a).drop bs).take bs).Pairwise (fun a b => idx a < idx b) := by rw [take_two]; exact hX.sublist ((List.take_sublist ..).trans (List.drop_sublist ..))
              have HS := sym_any (2 * bs) g n c (a : Int) ((a : Int) + (bs : Int)) (b : Int) kf kl idx (don (ltd kf kl) (2 * bs) t X) (isort (ltd kf kl) ((X.drop a).take bs)) (isort (ltd kf kl) (((X.drop a).drop bs).take bs)) (don (ltd kf kl) bs T' ((X.drop a).drop (2 * bs))) w0 wr
                (by simp only [isort_len, List.length_take]; omega) (by rw [hE] at hS; simpa only [List.append_assoc] using hS) (by rw [List.length_append, List.length_append, List.length_append, HLA.out]; have := Hn.out; have := HB.out; simp only [isort_len, List.length_take, don_len, List.length_drop] at hT' ⊢; omega) hbig
                (by rw [HLA.out]) (by have := HLA.out; have := Hn.out; have := HB.out; simp only [isort_len, List.length_take, List.length_drop]; omega) (by have := HLA.out; have := Hn.out; have := HB.out; simp only [isort_len, List.length_take, List.length_drop]; omega)
                (by have := Hn.out; have := HB.out; simp only [isort_len, List.length_take, List.length_drop]; omega) (by have := Hn.out; have := HB.out; simp only [isort_len, List.length_take, List.length_drop]; omega) (runs_isort hs _ _ hUV)
              have HK : Hid (∀ w1 R, Merged (ltd kf kl) idx (isort (ltd kf kl) ((X.drop a).take bs)) (isort (ltd kf kl) (((X.drop a).drop bs).take bs)) R → Srt w0 w1 g kf kl (don (ltd kf kl) (2 * bs) t X ++ R ++ don (ltd kf kl) bs T' ((X.drop a).drop (2 * bs))) → Srt w0 w1 g kf kl (don (ltd kf kl) (2 * bs) (t + 1) X ++ don (ltd kf kl) bs T' (X.drop b))) := by
                intro w1 R hM h1
                rw [merged_isort hs _ _ R hUV hM] at h1
                have h2 := don_step (lt := ltd kf kl) bs t X
                rw [← HA.out] at h2
                rw [h2, List.drop_drop, ← HB.out] at h1
                exact h1
              have HT2 : Hid ((X.drop b).length ≤ T' * bs) := by show _ ≤ _; rw [List.drop_drop, ← HB.out] at hT'; exact hT'
              have HN : Hid (b = (t + 1) * (2 * bs)) := by show b = _; rw [Nat.succ_mul, ← HA.out]; exact HB.out
              clear hS hE hZ hT' hUV
              go_wp2_with fail
              refine HS.mono ?_
              clear HS
              rintro e w1 ⟨rfl, R, hM, hS1⟩
              have hS2 := HK.out w1 R hM hS1
              clear hM hS1 HK
              go_wp2
              go_roundw
              case rel => exact ⟨t + 1, b, b + 2 * bs, T', rfl, by go_num, HN, rfl, hbn, HT2, hS2⟩
              case measure => simp [intOf]; have := HB.out; omega
            · have hd : decide (b ≤ n) = false := by simp; omega
              have hTn : n ≤ (t + 1) * (2 * bs) := by rw [Nat.succ_mul, ← HA.out, ← HB.out]; omega
              have HTn : Hid (n ≤ (t + 1) * (2 * bs)) := hTn
              clear hTn
              have l9 : a ≤ b := by have := HB.out; omega
              by_cases hmn : a + bs < n
              · have hZ : bs < (X.drop a).length := by rw [List.length_drop]; have := Hn.out; have := HB.out; omega
                obtain ⟨T', hE, hT'⟩ := don_two (lt := ltd kf kl) bs T (X.drop a) hbs hZ HT.out
                have hUV : ((X.drop a).take bs ++ ((X.drop a).drop bs).take bs).Pairwise (fun a b => idx a < idx b) := by rw [take_two]; exact hX.sublist ((List.take_sublist ..).trans (List.drop_sublist ..))
                have hnil : (X.drop a).drop (2 * bs) = [] := by rw [List.drop_drop]; exact List.drop_eq_nil_of_le (by have := Hn.out; have := HB.out; omega)
                rw [hnil, don_nil, List.append_nil] at hE
                have HS := sym_any (2 * bs) g n c (a : Int) ((a : Int) + (bs : Int)) (n : Int) kf kl idx (don (ltd kf kl) (2 * bs) t X) (isort (ltd kf kl) ((X.drop a).take bs)) (isort (ltd kf kl) (((X.drop a).drop bs).take bs)) [] w0 wr
                  (by simp only [isort_len, List.length_take]; omega) (by rw [hE] at hS; simpa only [List.append_assoc, List.append_nil] using hS) (by have := HLA.out; have := Hn.out; have := HB.out; simp only [isort_len, List.length_take, List.length_append, List.length_drop, List.length_nil]; omega) hbig
                  (by rw [HLA.out]) (by have := HLA.out; have := Hn.out; have := HB.out; simp only [isort_len, List.length_take, List.length_drop]; omega) (by have := HLA.out; have := Hn.out; have := HB.out; simp only [isort_len, List.length_take, List.length_drop]; omega)
                  (by have := Hn.out; have := HB.out; simp only [isort_len, List.length_take, List.length_drop]; omega) (by have := Hn.out; have := HB.out; simp only [isort_len, List.length_take, List.length_drop]; omega) (runs_isort hs _ _ hUV)
                have HK : Hid (∀ w1 R, Merged (ltd kf kl) idx (isort (ltd kf kl) ((X.drop a).take bs)) (isort (ltd kf kl) (((X.drop a).drop bs).take bs)) R → Srt w0 w1 g kf kl (don (ltd kf kl) (2 * bs) t X ++ R ++ []) → Srt w0 w1 g kf kl (don (ltd kf kl) (2 * bs) (t + 1) X)) := by
                  intro w1 R hM h1
                  rw [merged_isort hs _ _ R hUV hM] at h1
                  have h2 := don_step (lt := ltd kf kl) bs t X
                  rw [← HA.out] at h2
                  rw [List.append_nil, h2] at h1
                  exact h1
                clear hS hE hZ hT' hUV hnil hbn
                go_wp2_with fail
                refine HS.mono ?_
                clear HS
                rintro e w1 ⟨rfl, R, hM, hS1⟩
                have hS2 := HK.out w1 R hM hS1
                clear hM hS1 HK
                go_wp2
                go_roundw
                case rel => exact ⟨2 * bs, t + 1, by go_num, by omega, by omega, HTn, hS2⟩
                case measure => simp [intOf]; omega
              · have hd2 : decide ((a : Int) + (bs : Int) < (n : Int)) = false := by simp; omega
                have hS2 : Srt w0 wr g kf kl (don (ltd kf kl) (2 * bs) (t + 1) X) := by
                  have h3 := Hn.out
                  have h4 := HB.out
                  rw [don_small bs T (X.drop a) (by rw [List.length_drop]; omega) HT.out] at hS
                  rw [don, ← HA.out, List.take_of_length_le (by rw [List.length_drop]; omega)]
                  exact hS
                clear hS hbn hmn
                go_wp2
                go_roundw
                case rel => exact ⟨2 * bs, t + 1, by go_num, by omega, by omega, HTn, hS2⟩
                case measure => simp [intOf]; omega
        · have hd : decide ((bs : Int) < (n : Int)) = false := by simp; omega
          have hE : don (ltd kf kl) bs T X = isort (ltd kf kl) X := don_small bs T X (by have := Hn.out; omega) (by have := HT.out; have := Hn.out; omega)
          rw [hE] at hS
          clear hE
          go_wp2
          go_end0
          exact ⟨rfl, hS⟩

set_option maxHeartbeats 1000000 in
set_option maxRecDepth 100000 in
theorem stable_none (sl : Value) (w : World) : Calls Yba.prog 14 #[sl, .int .i64 0, .func (.func 9) #[] #[]] w fun e w' => e = .returned (.tuple #[]) ∧ w = w' := by
  go_enter Yba.func14, Yba.ntmps14
  go_wp2
  go_loopw [7, 8] (fun av bv wi => av = .int .i64 0 ∧ bv = .int .i64 20 ∧ w = wi) (fun _ _ _ => 0)
  case atStart => exact ⟨rfl, rfl, rfl⟩
  case round =>
    obtain ⟨rfl, rfl, rfl⟩ := hrel
    have HS := ins_none sl 0 0 w (Nat.le_refl _) (by omega)
    go_wp2_with fail
    refine HS.mono ?_
    clear HS
    rintro e w1 ⟨rfl, rfl⟩
    go_wp2
    go_loopw [6] (fun bv wi => bv = .int .i64 20 ∧ w = wi) (fun _ _ => 0)
    case atStart => exact ⟨rfl, rfl⟩
    case round =>
      obtain ⟨rfl, rfl⟩ := hrel
      go_wp2
      go_end0
      exact ⟨rfl, rfl⟩

set_option maxHeartbeats 1000000 in
set_option maxRecDepth 100000 in
/-- slices.SortStableFunc over a row that lies in a block of its own. -/
theorem sortStable_any (g n c : Nat) (kf kl : Nat → Int) (idx : Nat → Nat) (X : List Nat) (w0 w : World) (h : Srt w0 w g kf kl X) (hn : X.length = n) (hbig : n ≤ 140737488355328) (hX : X.Pairwise (fun a b => idx a < idx b)) :
    Calls Yba.prog 8 #[.slice (some ⟨g, 0, none⟩) n c, .func (.func 9) #[] #[]] w fun e w' => e = .returned (.tuple #[]) ∧ Srt w0 w' g kf kl (isort (ltd kf kl) X) := by
  have HS := stable_any g n c kf kl idx X w0 w h hn hbig hX
  clear h hn hX
  go_enter Yba.func8, Yba.ntmps8
  go_wp2_with fail
  refine HS.mono ?_
  clear HS
  rintro e w1 ⟨rfl, hS⟩
  go_wp2
  go_end0
  exact ⟨rfl, hS⟩

set_option maxHeartbeats 1000000 in
set_option maxRecDepth 100000 in
theorem sortStable_none (p : Option Addr) (c : Nat) (w : World) : Calls Yba.prog 8 #[.slice p 0 c, .func (.func 9) #[] #[]] w fun e w' => e = .returned (.tuple #[]) ∧ w = w' := by
  have HS := stable_none (.slice p 0 c) w
  go_enter Yba.func8, Yba.ntmps8
  go_wp2_with fail
  refine HS.mono ?_
  clear HS
  rintro e w1 ⟨rfl, rfl⟩
  go_wp2
  go_end0
  exact ⟨rfl, rfl⟩
end Go.Proofs.Ybulkeidm
