/-
  slices.swapRangeCmpFunc, rotateCmpFunc over pointers: two stretches of a row change places.
-/
import Derived.Test.YbulkeidmSort
namespace Go.Proofs.Ybulkeidm
open Go.RowKit

/-- The row behind i exchanges. -/
def swpd (A X B Y C : List Nat) (i : Nat) : List Nat := A ++ Y.take i ++ X.drop i ++ B ++ X.take i ++ Y.drop i ++ C

theorem swpd_zero (A X B Y C : List Nat) : swpd A X B Y C 0 = A ++ X ++ B ++ Y ++ C := by simp [swpd]
theorem swpd_all (A X B Y C : List Nat) (h : Y.length = X.length) : swpd A X B Y C X.length = A ++ Y ++ B ++ X ++ C := by
  rw [swpd, List.take_of_length_le (by omega), List.drop_length, List.take_length, List.drop_of_length_le (by omega)]
  simp only [List.append_nil]
theorem swpd_len (A X B Y C : List Nat) (i : Nat) (hi : i ≤ X.length) (h : Y.length = X.length) : (swpd A X B Y C i).length = A.length + X.length + B.length + Y.length + C.length := by
  simp [swpd]; omega
theorem swpd_x (A X B Y C : List Nat) (i : Nat) (hi : i < X.length) (h : Y.length = X.length) : (swpd A X B Y C i)[A.length + i]? = some X[i] := by
  have e : swpd A X B Y C i = (A ++ Y.take i) ++ (X.drop i ++ (B ++ X.take i ++ Y.drop i ++ C)) := by simp [swpd]
  rw [e, List.getElem?_append_right (by simp; omega)]
  have e2 : A.length + i - (A ++ Y.take i).length = 0 := by simp; omega
  rw [e2, List.getElem?_append_left (by simp; omega)]
  simp [hi]
theorem swpd_y (A X B Y C : List Nat) (i : Nat) (hi : i < X.length) (h : Y.length = X.length) : (swpd A X B Y C i)[A.length + X.length + B.length + i]? = some (Y[i]'(by omega)) := by
  have e : swpd A X B Y C i = (A ++ Y.take i ++ X.drop i ++ B ++ X.take i) ++ (Y.drop i ++ C) := by simp [swpd]
  rw [e, List.getElem?_append_right (by simp; omega)]
  have e2 : A.length + X.length + B.length + i - (A ++ Y.take i ++ X.drop i ++ B ++ X.take i).length = 0 := by simp; omega
  rw [e2, List.getElem?_append_left (by simp; omega)]
  have : i < Y.length := by omega
  simp [this]
theorem swpd_succ (A X B Y C : List Nat) (i : Nat) (hi : i < X.length) (h : Y.length = X.length) :
    (((swpd A X B Y C i).set (A.length + i) (Y[i]'(by omega))).set (A.length + X.length + B.length + i) X[i]) = swpd A X B Y C (i + 1) := by
  have hY : i < Y.length := by omega
  have e : swpd A X B Y C i = (A ++ Y.take i) ++ X[i] :: (X.drop (i + 1) ++ B ++ X.take i ++ Y[i] :: (Y.drop (i + 1) ++ C)) := by
    rw [swpd, List.drop_eq_getElem_cons hi, List.drop_eq_getElem_cons hY]
    simp only [List.append_assoc, List.cons_append]
  rw [e, List.set_append_right _ _ (by simp; omega)]
  have e2 : A.length + i - (A ++ Y.take i).length = 0 := by simp; omega
  rw [e2, List.set_cons_zero]
  have e3 : (A ++ Y.take i) ++ Y[i] :: (X.drop (i + 1) ++ B ++ X.take i ++ Y[i] :: (Y.drop (i + 1) ++ C)) = (A ++ Y.take i ++ [Y[i]] ++ X.drop (i + 1) ++ B ++ X.take i) ++ Y[i] :: (Y.drop (i + 1) ++ C) := by simp only [List.append_assoc, List.cons_append, List.nil_append]
  rw [e3, List.set_append_right _ _ (by simp; omega)]
  have e4 : A.length + X.length + B.length + i - (A ++ Y.take i ++ [Y[i]] ++ X.drop (i + 1) ++ B ++ X.take i).length = 0 := by simp; omega
  rw [e4, List.set_cons_zero, swpd, List.take_succ_eq_append_getElem hi, List.take_succ_eq_append_getElem hY]
  simp only [List.append_assoc, List.cons_append, List.nil_append]

set_option maxHeartbeats 1000000 in
set_option maxRecDepth 100000 in
theorem swapR_any (g n c a b k : Nat) (kf kl : Nat → Int) (A X B Y C : List Nat) (w0 w : World) (h : Srt w0 w g kf kl (A ++ X ++ B ++ Y ++ C)) (hn : (A ++ X ++ B ++ Y ++ C).length = n) (hbig : n ≤ 140737488355328)
    (ha : a = A.length) (hb : b = A.length + X.length + B.length) (hk : k = X.length) (hY : Y.length = X.length) :
    Calls Yba.prog 37 #[.slice (some ⟨g, 0, none⟩) n c, .int .i64 (a : Nat), .int .i64 (b : Nat), .int .i64 (k : Nat), .func (.func 9) #[] #[]] w fun e w' => e = .returned (.tuple #[]) ∧ Srt w0 w' g kf kl (A ++ Y ++ B ++ X ++ C) := by
  have Hn : Hid (A.length + X.length + B.length + Y.length + C.length = n) := by show _ = n; simp at hn; omega
  have Ha : Hid (a = A.length) := ha
  have Hb : Hid (b = A.length + X.length + B.length) := hb
  have Hk : Hid (k = X.length) := hk
  have HY : Hid (Y.length = X.length) := hY
  have hbk : b + k ≤ n := by simp at hn; omega
  have hak : a + k ≤ b := by omega
  rw [← swpd_zero] at h
  clear ha hb hk hY hn
  go_enter Yba.func37, Yba.ntmps37
  go_wp2
  go_loopw [10] (fun iv wi => ∃ i : Nat, i ≤ k ∧ iv = .int .i64 (i : Nat) ∧ Srt w0 wi g kf kl (swpd A X B Y C i)) (fun iv _ => k - (intOf iv).toNat)
  case atStart => exact ⟨0, Nat.zero_le _, rfl, h⟩
  case round =>
    clear h
    obtain ⟨i, hi, rfl, hS⟩ := hrel
    by_cases hlt : i < k
    · have hiX : i < X.length := by have := Hk.out; omega
      have hiY : i < Y.length := by have := HY.out; omega
      obtain ⟨x, hx⟩ : ∃ x, x = X[i] := ⟨_, rfl⟩
      obtain ⟨y, hy⟩ : ∃ y, y = Y[i] := ⟨_, rfl⟩
      have hl := swpd_len A X B Y C i (by omega) HY.out
      rw [Hn.out] at hl
      have gx : (swpd A X B Y C i)[a + i]'(by omega) = x := by rw [List.getElem_eq_iff, Ha.out, hx]; exact swpd_x A X B Y C i hiX HY.out
      have gy : (swpd A X B Y C i)[b + i]'(by omega) = y := by rw [List.getElem_eq_iff, Hb.out, hy]; exact swpd_y A X B Y C i hiX HY.out
      have cx : wr.cell? ⟨g, a + i, none⟩ = some (ptr x) := by have := hS.row.cell (a + i) (by omega); rw [gx] at this; exact this
      have cy : wr.cell? ⟨g, b + i, none⟩ = some (ptr y) := by have := hS.row.cell (b + i) (by omega); rw [gy] at this; exact this
      have fx : wr.frozen? ⟨g, a + i, none⟩ = false := hS.row.frozen _
      have fy : wr.frozen? ⟨g, b + i, none⟩ = false := hS.row.frozen _
      have HSW : Hid (∀ q, Srt w0 (((wr.drewN q).setCell ⟨g, a + i, none⟩ (ptr y)).setCell ⟨g, b + i, none⟩ (ptr x)) g kf kl (swpd A X B Y C (i + 1))) := by
        intro q
        have h1 := (hS.drewN q).swap (a + i) (b + i) (by omega) (by omega)
        have h2 := swpd_succ A X B Y C i hiX HY.out
        rw [← Hb.out, ← Ha.out, ← hx, ← hy] at h2
        rw [gx, gy, h2] at h1
        exact h1
      have i1 : (a : Int) + (i : Int) < (n : Int) := by omega
      have i2 : (b : Int) + (i : Int) < (n : Int) := by omega
      clear gx gy hx hy hl hS hiX hiY
      go_wp2
      go_region
      go_wp2
      go_roundw
      case rel => exact ⟨i + 1, hlt, by go_num, HSW.out 1⟩
      case measure => simp [intOf]; omega
    · obtain rfl : i = k := by omega
      have hd : decide ((i : Int) < (i : Int)) = false := by simp
      go_wp2
      go_end0
      have e := swpd_all A X B Y C HY.out
      rw [← Hk.out] at e
      rw [e] at hS
      exact ⟨rfl, hS⟩

theorem swapR_int (g n c : Nat) (av bv kv : Int) (kf kl : Nat → Int) (A X B Y C : List Nat) (w0 w : World) (h : Srt w0 w g kf kl (A ++ X ++ B ++ Y ++ C)) (hn : (A ++ X ++ B ++ Y ++ C).length = n) (hbig : n ≤ 140737488355328)
    (ha : av = (A.length : Nat)) (hb : bv = (A.length + X.length + B.length : Nat)) (hk : kv = (X.length : Nat)) (hY : Y.length = X.length) :
    Calls Yba.prog 37 #[.slice (some ⟨g, 0, none⟩) n c, .int .i64 av, .int .i64 bv, .int .i64 kv, .func (.func 9) #[] #[]] w fun e w' => e = .returned (.tuple #[]) ∧ Srt w0 w' g kf kl (A ++ Y ++ B ++ X ++ C) := by
  subst ha hb hk
  exact swapR_any g n c _ _ _ kf kl A X B Y C w0 w h hn hbig rfl rfl rfl hY

/-- What holds at the head of rotate's round. -/
structure RotAt (w0 wr : World) (g n m : Nat) (kf kl : Nat → Int) (tgt A U V C : List Nat) : Prop where
  srt : Srt w0 wr g kf kl (A ++ U ++ V ++ C)
  len : (A ++ U ++ V ++ C).length = n
  at_ : A.length + U.length = m
  tg : A ++ V ++ U ++ C = tgt

set_option maxHeartbeats 1000000 in
set_option maxRecDepth 100000 in
theorem rotate_any (g n c a m b : Nat) (kf kl : Nat → Int) (A U V C : List Nat) (w0 w : World) (h : Srt w0 w g kf kl (A ++ U ++ V ++ C)) (hn : (A ++ U ++ V ++ C).length = n) (hbig : n ≤ 140737488355328)
    (ha : a = A.length) (hm : m = A.length + U.length) (hb : b = A.length + U.length + V.length) (hU : 0 < U.length) (hV : 0 < V.length) :
    Calls Yba.prog 31 #[.slice (some ⟨g, 0, none⟩) n c, .int .i64 (a : Nat), .int .i64 (m : Nat), .int .i64 (b : Nat), .func (.func 9) #[] #[]] w fun e w' => e = .returned (.tuple #[]) ∧ Srt w0 w' g kf kl (A ++ V ++ U ++ C) := by
  obtain ⟨tgt, ht⟩ : ∃ tgt, A ++ V ++ U ++ C = tgt := ⟨_, rfl⟩
  rw [ht]
  have hR : RotAt w0 w g n m kf kl tgt A U V C := ⟨h, hn, hm.symm, ht⟩
  have HU : Hid ((m : Int) - (a : Int) = (U.length : Nat)) := by show (m : Int) - (a : Int) = (U.length : Nat); omega
  have HV : Hid ((b : Int) - (m : Int) = (V.length : Nat)) := by show (b : Int) - (m : Int) = (V.length : Nat); omega
  have l1 : a < m := by omega
  have l2 : m < b := by omega
  have l3 : b ≤ n := by simp at hn; omega
  clear ha hm hb ht hn h
  go_enter Yba.func31, Yba.ntmps31
  go_wp2
  go_loopw [10, 11] (fun iv jv wi => ∃ (i j : Nat) (A U V C : List Nat), iv = .int .i64 (i : Nat) ∧ jv = .int .i64 (j : Nat) ∧ i = U.length ∧ j = V.length ∧ 0 < i ∧ 0 < j ∧ i ≤ m ∧ m + j ≤ n ∧ RotAt w0 wi g n m kf kl tgt A U V C) (fun iv jv _ => (intOf iv).toNat + (intOf jv).toNat)
  case atStart => exact ⟨U.length, V.length, A, U, V, C, by rw [HU.out], by rw [HV.out], rfl, rfl, hU, hV, by have := HU.out; omega, by have := HV.out; omega, hR⟩
  case round =>
    clear hR hU hV HU HV A U V C
    obtain ⟨i, j, A, U, V, C, rfl, rfl, hi, hj, hi0, hj0, him, hjn, hR⟩ := hrel
    have HI : Hid (i = U.length) := hi
    have HJ : Hid (j = V.length) := hj
    clear hi hj
    by_cases hij : i = j
    · have hb1 : ((i : Int) != (j : Int)) = false := by simp [hij]
      have hb2 : ((j : Int) != (j : Int)) = false := by simp
      subst hij
      have HS := swapR_int g n c ((m : Int) - (i : Int)) (m : Int) (i : Int) kf kl A U [] V C w0 wr (by simpa using hR.srt) (by simpa using hR.len) hbig (by have := hR.at_; have := HI.out; omega) (by have := hR.at_; simp; omega) (by rw [HI.out]) (by rw [← HI.out, ← HJ.out])
      have HTG : Hid (A ++ V ++ [] ++ U ++ C = tgt) := by show A ++ V ++ [] ++ U ++ C = tgt; simpa using hR.tg
      clear hR
      go_wp2_with fail
      refine HS.mono ?_
      clear HS
      rintro e w1 ⟨rfl, hS1⟩
      go_wp2
      go_end0
      rw [HTG.out] at hS1
      exact ⟨rfl, hS1⟩
    · have hb1 : ((i : Int) != (j : Int)) = true := by simp; omega
      by_cases hgt : j < i
      · have HS := swapR_int g n c ((m : Int) - (i : Int)) (m : Int) (j : Int) kf kl A (U.take j) (U.drop j) V C w0 wr (by have := hR.srt; simpa using this) (by have := hR.len; simp at this ⊢; omega) hbig (by have := hR.at_; have := HI.out; omega)
          (by have := hR.at_; have := HI.out; simp; omega) (by have := HI.out; simp; omega) (by have := HI.out; have := HJ.out; simp; omega)
        have HN : Hid (∀ w1, Srt w0 w1 g kf kl (A ++ V ++ U.drop j ++ U.take j ++ C) → RotAt w0 w1 g n m kf kl tgt (A ++ V) (U.drop j) (U.take j) C) := by
          intro w1 h1
          refine ⟨h1, ?_, ?_, ?_⟩
          · have := hR.len; simp at this ⊢; omega
          · have := hR.at_; have := HI.out; have := HJ.out; simp; omega
          · rw [← hR.tg]; simp
        clear hR
        go_wp2_with fail
        refine HS.mono ?_
        clear HS
        rintro e w1 ⟨rfl, hS1⟩
        go_wp2
        go_roundw
        case rel => exact ⟨i - j, j, A ++ V, U.drop j, U.take j, C, by go_num, rfl, by have := HI.out; simp; omega, by have := HI.out; simp; omega, by omega, hj0, by omega, hjn, HN.out _ hS1⟩
        case measure => simp [intOf]; omega
      · have HS := swapR_int g n c ((m : Int) - (i : Int)) ((m : Int) + (j : Int) - (i : Int)) (i : Int) kf kl A U (V.take (j - i)) (V.drop (j - i)) C w0 wr (by have := hR.srt; simpa using this) (by have := hR.len; simp at this ⊢; omega) hbig (by have := hR.at_; have := HI.out; omega)
          (by have := hR.at_; have := HI.out; have := HJ.out; simp; omega) (by have := HI.out; omega) (by have := HI.out; have := HJ.out; simp; omega)
        have HN : Hid (∀ w1, Srt w0 w1 g kf kl (A ++ V.drop (j - i) ++ V.take (j - i) ++ U ++ C) → RotAt w0 w1 g n m kf kl tgt A (V.drop (j - i)) (V.take (j - i)) (U ++ C)) := by
          intro w1 h1
          refine ⟨by simpa using h1, ?_, ?_, ?_⟩
          · have := hR.len; simp at this ⊢; omega
          · have := hR.at_; have := HI.out; have := HJ.out; simp; omega
          · rw [← hR.tg]; simp
        clear hR
        go_wp2_with fail
        refine HS.mono ?_
        clear HS
        rintro e w1 ⟨rfl, hS1⟩
        go_wp2
        go_roundw
        case rel => exact ⟨i, j - i, A, V.drop (j - i), V.take (j - i), U ++ C, rfl, by go_num, by have := HJ.out; simp; omega, by have := HJ.out; simp; omega, hi0, by omega, him, by omega, HN.out _ hS1⟩
        case measure => simp [intOf]; omega
end Go.Proofs.Ybulkeidm
