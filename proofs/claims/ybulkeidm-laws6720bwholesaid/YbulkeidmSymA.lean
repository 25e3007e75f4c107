/-
  slices.symMergeCmpFunc over pointers, where one of the two runs holds one element.
-/
import Derived.Test.YbulkeidmRot
import Derived.Test.YbulkeidmMerge
import Derived.Deep.CutRange
namespace Go.Proofs.Ybulkeidm
open Go.RowKit

theorem get_P (A P Q C : List Nat) (t : Nat) (h : t < P.length) : (A ++ P ++ Q ++ C)[A.length + t]? = some P[t] := by
  have e : A ++ P ++ Q ++ C = A ++ (P ++ (Q ++ C)) := by simp
  rw [e, List.getElem?_append_right (by omega), List.getElem?_append_left (by omega)]
  simp [h]
theorem get_Q (A P Q C : List Nat) (t : Nat) (h : t < Q.length) : (A ++ P ++ Q ++ C)[A.length + P.length + t]? = some Q[t] := by
  have e : A ++ P ++ Q ++ C = (A ++ P) ++ (Q ++ C) := by simp
  rw [e, List.getElem?_append_right (by simp), List.getElem?_append_left (by simp; omega)]
  simp [h]

/-- The comparer says just what the order says. -/
theorem cmp_true {kf kl : Nat → Int} {x y : Nat} (h : ltd kf kl x y = true) : cmpEv (kf x) (kl x) (kf y) (kl y) < 0 := (cmpEv_neg _ _ _ _).2 h
theorem cmp_false {kf kl : Nat → Int} {x y : Nat} (h : ltd kf kl x y = false) : decide (cmpEv (kf x) (kl x) (kf y) (kl y) < 0) = false := by
  simp only [decide_eq_false_iff_not]
  intro hh
  have := (cmpEv_neg _ _ _ _).1 hh
  unfold ltd at h
  rw [this] at h; cases h

/-- x on its way behind t elements of Q. -/
def mvd (A Q C : List Nat) (x t : Nat) : List Nat := A ++ (Q.take t ++ x :: Q.drop t) ++ C
theorem mvd_zero (A Q C : List Nat) (x : Nat) : mvd A Q C x 0 = A ++ [x] ++ Q ++ C := by simp [mvd]
theorem mvd_len (A Q C : List Nat) (x t : Nat) (h : t ≤ Q.length) : (mvd A Q C x t).length = A.length + 1 + Q.length + C.length := by simp [mvd]; omega
theorem mvd_x (A Q C : List Nat) (x t : Nat) (h : t ≤ Q.length) : (mvd A Q C x t)[A.length + t]? = some x := by
  have e : mvd A Q C x t = (A ++ Q.take t) ++ x :: (Q.drop t ++ C) := by simp [mvd]
  rw [e, List.getElem?_append_right (by simp; omega)]
  have e2 : A.length + t - (A ++ Q.take t).length = 0 := by simp; omega
  rw [e2]; rfl
theorem mvd_y (A Q C : List Nat) (x t : Nat) (h : t < Q.length) : (mvd A Q C x t)[A.length + t + 1]? = some Q[t] := by
  have e : mvd A Q C x t = (A ++ Q.take t ++ [x]) ++ Q[t] :: (Q.drop (t + 1) ++ C) := by
    rw [mvd, List.drop_eq_getElem_cons h]
    simp only [List.append_assoc, List.cons_append, List.nil_append]
  rw [e, List.getElem?_append_right (by simp; omega)]
  have e2 : A.length + t + 1 - (A ++ Q.take t ++ [x]).length = 0 := by simp; omega
  rw [e2]; rfl
theorem mvd_succ (A Q C : List Nat) (x t : Nat) (h : t < Q.length) : ((mvd A Q C x t).set (A.length + t) Q[t]).set (A.length + t + 1) x = mvd A Q C x (t + 1) := by
  have e : mvd A Q C x t = (A ++ Q.take t) ++ x :: (Q[t] :: (Q.drop (t + 1) ++ C)) := by
    rw [mvd, List.drop_eq_getElem_cons h]
    simp only [List.append_assoc, List.cons_append]
  rw [e, List.set_append_right _ _ (by simp; omega)]
  have e2 : A.length + t - (A ++ Q.take t).length = 0 := by simp; omega
  rw [e2, List.set_cons_zero, List.set_append_right _ _ (by simp; omega)]
  have e3 : A.length + t + 1 - (A ++ Q.take t).length = 1 := by simp; omega
  rw [e3, List.set_cons_succ, List.set_cons_zero, mvd, List.take_succ_eq_append_getElem h]
  simp only [List.append_assoc, List.cons_append, List.nil_append]

set_option maxHeartbeats 2000000 in
set_option maxRecDepth 100000 in
theorem sym_left (g n c a m b : Nat) (kf kl : Nat → Int) (idx : Nat → Nat) (A Q C : List Nat) (x : Nat) (w0 w : World) (h : Srt w0 w g kf kl (A ++ [x] ++ Q ++ C)) (hn : (A ++ [x] ++ Q ++ C).length = n) (hbig : n ≤ 140737488355328)
    (ha : a = A.length) (hm : m = A.length + 1) (hb : b = A.length + 1 + Q.length) (hQ : 0 < Q.length) (hr : Runs (ltd kf kl) idx [x] Q) :
    Calls Yba.prog 20 #[.slice (some ⟨g, 0, none⟩) n c, .int .i64 (a : Nat), .int .i64 (m : Nat), .int .i64 (b : Nat), .func (.func 9) #[] #[]] w fun e w' =>
      e = .returned (.tuple #[]) ∧ ∃ R, Merged (ltd kf kl) idx [x] Q R ∧ Srt w0 w' g kf kl (A ++ R ++ C) := by
  have e1 : ((m : Int) - (a : Int) == 1) = true := by simp; omega
  have e2 : ((m : Int) - (a : Int)) = 1 := by omega
  obtain ⟨L, hL⟩ : ∃ L, L = A ++ [x] ++ Q ++ C := ⟨_, rfl⟩
  rw [← hL] at h hn
  have HGx : Hid (L[a]? = some x) := by show L[a]? = some x; rw [hL, ha]; exact get_P A [x] Q C 0 (by simp)
  have HGq : Hid (∀ t (ht : t < Q.length), L[m + t]? = some Q[t]) := by intro t ht; rw [hL, hm]; exact get_Q A [x] Q C t ht
  have HL : Hid (L = A ++ [x] ++ Q ++ C) := hL
  have HA : Hid (a = A.length) := ha
  have HM : Hid (m = a + 1) := by show m = a + 1; omega
  have HB : Hid (b = m + Q.length) := by show b = m + Q.length; omega
  have l1 : a < m := by omega
  have l2 : m < b := by omega
  have l3 : b ≤ n := by rw [hL] at hn; simp at hn; omega
  have hab : a < L.length := by omega
  have Hn : Hid (L.length = n) := hn
  clear hL ha hm hb e2
  go_enter Yba.func20, Yba.ntmps20
  go_wp2
  go_loopw [10, 11] (fun iv jv wi => ∃ (i j : Nat), iv = .int .i64 (i : Nat) ∧ jv = .int .i64 (j : Nat) ∧ m ≤ i ∧ i ≤ j ∧ j ≤ b ∧ (∀ (h0 : m < i) (h1 : i - 1 < L.length), ltd kf kl L[i - 1] x = true) ∧ (∀ (h0 : j < b) (h1 : j < L.length), ltd kf kl L[j] x = false) ∧ Srt w0 wi g kf kl L)
    (fun iv jv _ => (intOf jv).toNat - (intOf iv).toNat)
  case atStart => exact ⟨m, b, rfl, rfl, Nat.le_refl _, by omega, Nat.le_refl _, fun h0 => absurd h0 (by omega), fun h0 => absurd h0 (by omega), h⟩
  case round =>
    clear h hn
    obtain ⟨i, j, rfl, rfl, hmi, hij, hjb, hI, hJ, hS⟩ := hrel
    by_cases hlt : i < j
    · obtain ⟨hh, hhe⟩ : ∃ hh, hh = (i + j) / 2 := ⟨_, rfl⟩
      have hh1 : i ≤ hh := by omega
      have hh2 : hh < j := by omega
      have hhL : hh < L.length := by have := Hn.out; omega
      have cA : wr.cell? ⟨g, a, none⟩ = some (ptr x) := by have := hS.row.cell a hab; rw [(List.getElem_eq_iff hab).2 HGx.out] at this; exact this
      obtain ⟨y, hy⟩ : ∃ y, y = L[hh] := ⟨_, rfl⟩
      have cH : wr.cell? ⟨g, hh, none⟩ = some (ptr y) := by rw [hy]; exact hS.row.cell hh hhL
      have HC := fun (w' : World) (hw : ∀ a, w'.cell? a = wr.cell? a) => hS.cmp hh a hhL hab w' hw
      rw [(List.getElem_eq_iff hab).2 HGx.out, ← hy] at HC
      have HY : Hid (y = L[hh]) := hy
      have HHE : Hid (hh = (i + j) / 2) := hhe
      clear hy hhe
      have i1 : (0 : Int) ≤ (hh : Int) := by omega
      have i2 : (hh : Int) < (n : Int) := by omega
      have i3 : (a : Int) < (n : Int) := by omega
      rcases Bool.eq_false_or_eq_true (ltd kf kl y x) with hyx | hyx
      · have hc := cmp_true hyx
        have Hyx : Hid (ltd kf kl y x = true) := hyx
        clear hyx
        go_wp2
        rw [show ((i : Int) + (j : Int)) / 2 = (hh : Int) from by have := HHE.out; omega]
        go_region_held3 (fun w' => w'.cell? ⟨g, a, none⟩ = some (ptr x) ∧ w'.cell? ⟨g, hh, none⟩ = some (ptr y)) (first | go_keep | (refine ⟨?_, ?_⟩ <;> (rw [hbel.cell (lt_cell (by assumption))]; assumption)))
          ((go_at_call 9; refine (HC _ ?_).mono ?_; (intro a; rfl); rintro e w' ⟨rfl, hbel⟩))
        have hS2 := hS.drew.step hbel
        clear HC hS hbel cA cH
        go_wp2
        go_roundw
        case rel => exact ⟨hh + 1, j, by go_num, rfl, by omega, by omega, hjb, fun _ _ => by have := Hyx.out; rw [HY.out] at this; simpa using this, hJ, hS2⟩
        case measure => simp [intOf]; omega
      · have hc := cmp_false hyx
        have Hyx : Hid (ltd kf kl y x = false) := hyx
        clear hyx
        go_wp2
        rw [show ((i : Int) + (j : Int)) / 2 = (hh : Int) from by have := HHE.out; omega]
        go_region_held3 (fun w' => w'.cell? ⟨g, a, none⟩ = some (ptr x) ∧ w'.cell? ⟨g, hh, none⟩ = some (ptr y)) (first | go_keep | (refine ⟨?_, ?_⟩ <;> (rw [hbel.cell (lt_cell (by assumption))]; assumption)))
          ((go_at_call 9; refine (HC _ ?_).mono ?_; (intro a; rfl); rintro e w' ⟨rfl, hbel⟩))
        have hS2 := hS.drew.step hbel
        clear HC hS hbel cA cH
        go_wp2
        go_roundw
        case rel => exact ⟨i, hh, rfl, by go_num, hmi, hh1, by omega, hI, fun _ _ => by have := Hyx.out; rw [HY.out] at this; exact this, hS2⟩
        case measure => simp [intOf]; omega
    · obtain rfl : i = j := by omega
      have hd : decide ((i : Int) < (i : Int)) = false := by simp
      obtain ⟨s, hs⟩ : ∃ s, i = m + s := ⟨i - m, by omega⟩
      have hsQ : s ≤ Q.length := by have := HB.out; omega
      have hMg : Merged (ltd kf kl) idx [x] Q (Q.take s ++ x :: Q.drop s) := by
        refine merge_left (lessEv_swo kf kl) x Q s hsQ hr ?_ ?_
        · intro h0
          have h1 : i - 1 < L.length := by have := Hn.out; omega
          have h2 := hI (by omega) h1
          have h3 : L[i - 1] = Q[s - 1]'(by omega) := by
            rw [List.getElem_eq_iff, show i - 1 = m + (s - 1) from by omega]
            exact HGq.out (s - 1) (by omega)
          rw [h3] at h2; exact h2
        · intro h0
          have h1 : i < L.length := by have := Hn.out; have := HB.out; omega
          have h2 := hJ (by have := HB.out; omega) h1
          have h3 : L[i] = Q[s] := by
            rw [List.getElem_eq_iff, hs]
            exact HGq.out s h0
          rw [h3] at h2; exact h2
      have HMg : Hid (Merged (ltd kf kl) idx [x] Q (Q.take s ++ x :: Q.drop s)) := hMg
      have HS0 : Hid (i = m + s) := hs
      have hsn : a + s < n := by have := HM.out; have := HB.out; omega
      have his : i = a + 1 + s := by have := HM.out; omega
      subst his
      clear hI hJ hr hMg hs hmi hij hjb hlt
      go_wp2
      rw [show ((a + 1 + s : Nat) : Int) = (a : Int) + 1 + (s : Int) from by omega]
      have hS0 : Srt w0 wr g kf kl (mvd A Q C x 0) := by rw [mvd_zero, ← HL.out]; exact hS
      clear hS
      obtain ⟨wo, rfl⟩ : ∃ wo : World, wo = wr := ⟨_, rfl⟩
      have Hnl : Hid (A.length + 1 + Q.length + C.length = n) := by show _ = n; have := Hn.out; rw [HL.out] at this; simp at this; omega
      go_loopw [13] (fun kv wi => ∃ (t : Nat), kv = .int .i64 ((a : Int) + (t : Nat)) ∧ t ≤ s ∧ Srt w0 wi g kf kl (mvd A Q C x t)) (fun kv _ => n - (intOf kv).toNat)
      case atStart => exact ⟨0, by simp, Nat.zero_le _, hS0⟩
      case round =>
        clear hS0
        obtain ⟨t, rfl, hts, hS⟩ := hrel
        by_cases htl : t < s
        · have htQ : t < Q.length := by omega
          have htn : a + t + 1 < n := by have := Hnl.out; have := HA.out; omega
          have hl := mvd_len A Q C x t (by omega)
          rw [Hnl.out] at hl
          have gx : (mvd A Q C x t)[a + t]'(by omega) = x := by rw [List.getElem_eq_iff, HA.out]; exact mvd_x A Q C x t (by omega)
          have gy : (mvd A Q C x t)[a + t + 1]'(by omega) = Q[t] := by rw [List.getElem_eq_iff, HA.out]; exact mvd_y A Q C x t htQ
          obtain ⟨y, hy⟩ : ∃ y, y = Q[t] := ⟨_, rfl⟩
          rw [← hy] at gy
          have cx : wr.cell? ⟨g, a + t, none⟩ = some (ptr x) := by have := hS.row.cell (a + t) (by omega); rw [gx] at this; exact this
          have cy : wr.cell? ⟨g, a + t + 1, none⟩ = some (ptr y) := by have := hS.row.cell (a + t + 1) (by omega); rw [gy] at this; exact this
          have fx : wr.frozen? ⟨g, a + t, none⟩ = false := hS.row.frozen _
          have fy : wr.frozen? ⟨g, a + t + 1, none⟩ = false := hS.row.frozen _
          have HSW : Hid (∀ q, Srt w0 (((wr.drewN q).setCell ⟨g, a + t, none⟩ (ptr y)).setCell ⟨g, a + t + 1, none⟩ (ptr x)) g kf kl (mvd A Q C x (t + 1))) := by
            intro q
            have h1 := (hS.drewN q).swap (a + t) (a + t + 1) (by omega) (by omega)
            have h2 := mvd_succ A Q C x t htQ
            rw [← HA.out, ← hy] at h2
            rw [gx, gy, h2] at h1
            exact h1
          clear gx gy hy hl hS htQ
          have i1 : (a : Int) + (t : Int) + 1 < (n : Int) := by omega
          go_wp2
          go_region
          go_wp2
          go_roundw
          case rel => exact ⟨t + 1, by go_num, htl, HSW.out 1⟩
          case measure => simp [intOf]; omega
        · obtain rfl : t = s := by omega
          have hd2 : decide ((a : Int) + (t : Int) < (a : Int) + 1 + (t : Int) - 1) = false := by simp; omega
          go_wp2
          exact bodyPost_ret (v := .tuple #[]) (results_none rfl _ _ _) rfl ⟨rfl, _, HMg.out, hS⟩
end Go.Proofs.Ybulkeidm
