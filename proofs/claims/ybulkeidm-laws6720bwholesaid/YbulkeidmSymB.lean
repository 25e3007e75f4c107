/-
  slices.symMergeCmpFunc over pointers, where the second run holds one element.
-/
import Derived.Test.YbulkeidmSymA
namespace Go.Proofs.Ybulkeidm
open Go.RowKit

theorem mvd_back_y (A P C : List Nat) (y u : Nat) (h : u < P.length) : (mvd A P C y (u + 1))[A.length + u]? = some P[u] := by
  have e : mvd A P C y (u + 1) = (A ++ P.take u) ++ P[u] :: (y :: (P.drop (u + 1) ++ C)) := by
    rw [mvd, List.take_succ_eq_append_getElem h]
    simp only [List.append_assoc, List.cons_append, List.nil_append]
  rw [e, List.getElem?_append_right (by simp; omega)]
  have e2 : A.length + u - (A ++ P.take u).length = 0 := by simp; omega
  rw [e2]; rfl
theorem mvd_back (A P C : List Nat) (y u : Nat) (h : u < P.length) : ((mvd A P C y (u + 1)).set (A.length + u + 1) P[u]).set (A.length + u) y = mvd A P C y u := by
  have e : mvd A P C y (u + 1) = (A ++ P.take u) ++ P[u] :: (y :: (P.drop (u + 1) ++ C)) := by
    rw [mvd, List.take_succ_eq_append_getElem h]
    simp only [List.append_assoc, List.cons_append, List.nil_append]
  rw [e, List.set_append_right _ _ (by simp; omega)]
  have e3 : A.length + u + 1 - (A ++ P.take u).length = 1 := by simp; omega
  rw [e3, List.set_cons_succ, List.set_cons_zero, List.set_append_right _ _ (by simp; omega)]
  have e2 : A.length + u - (A ++ P.take u).length = 0 := by simp; omega
  rw [e2, List.set_cons_zero, mvd, List.drop_eq_getElem_cons h]
  simp only [List.append_assoc, List.cons_append]
theorem mvd_full (A P C : List Nat) (y : Nat) : mvd A P C y P.length = A ++ P ++ [y] ++ C := by simp [mvd]

set_option maxHeartbeats 2000000 in
set_option maxRecDepth 100000 in
theorem sym_right (g n c a m b : Nat) (kf kl : Nat → Int) (idx : Nat → Nat) (A P C : List Nat) (y : Nat) (w0 w : World) (h : Srt w0 w g kf kl (A ++ P ++ [y] ++ C)) (hn : (A ++ P ++ [y] ++ C).length = n) (hbig : n ≤ 140737488355328)
    (ha : a = A.length) (hm : m = A.length + P.length) (hb : b = A.length + P.length + 1) (hP : 2 ≤ P.length) (hr : Runs (ltd kf kl) idx P [y]) :
    Calls Yba.prog 20 #[.slice (some ⟨g, 0, none⟩) n c, .int .i64 (a : Nat), .int .i64 (m : Nat), .int .i64 (b : Nat), .func (.func 9) #[] #[]] w fun e w' =>
      e = .returned (.tuple #[]) ∧ ∃ R, Merged (ltd kf kl) idx P [y] R ∧ Srt w0 w' g kf kl (A ++ R ++ C) := by
  have e1 : ((m : Int) - (a : Int) == 1) = false := by simp; omega
  have e2 : ((b : Int) - (m : Int) == 1) = true := by simp; omega
  obtain ⟨L, hL⟩ : ∃ L, L = A ++ P ++ [y] ++ C := ⟨_, rfl⟩
  rw [← hL] at h hn
  have HGy : Hid (L[m]? = some y) := by show L[m]? = some y; rw [hL, hm]; exact get_Q A P [y] C 0 (by simp)
  have HGp : Hid (∀ t (ht : t < P.length), L[a + t]? = some P[t]) := by intro t ht; rw [hL, ha]; exact get_P A P [y] C t ht
  have HL : Hid (L = A ++ P ++ [y] ++ C) := hL
  have HA : Hid (a = A.length) := ha
  have HM : Hid (m = a + P.length) := by show m = a + P.length; omega
  have HB : Hid (b = m + 1) := by show b = m + 1; omega
  have l1 : a < m := by omega
  have l2 : m < b := by omega
  have l3 : b ≤ n := by rw [hL] at hn; simp at hn; omega
  have hmL : m < L.length := by omega
  have Hn : Hid (L.length = n) := hn
  clear hL ha hm hb
  go_enter Yba.func20, Yba.ntmps20
  go_wp2
  go_loopw [14, 15] (fun iv jv wi => ∃ (i j : Nat), iv = .int .i64 (i : Nat) ∧ jv = .int .i64 (j : Nat) ∧ a ≤ i ∧ i ≤ j ∧ j ≤ m ∧ (∀ (h0 : a < i) (h1 : i - 1 < L.length), ltd kf kl y L[i - 1] = false) ∧ (∀ (h0 : j < m) (h1 : j < L.length), ltd kf kl y L[j] = true) ∧ Srt w0 wi g kf kl L)
    (fun iv jv _ => (intOf jv).toNat - (intOf iv).toNat)
  case atStart => exact ⟨a, m, rfl, rfl, Nat.le_refl _, by omega, Nat.le_refl _, fun h0 => absurd h0 (by omega), fun h0 => absurd h0 (by omega), h⟩
  case round =>
    clear h hn
    obtain ⟨i, j, rfl, rfl, hai, hij, hjm, hI, hJ, hS⟩ := hrel
    by_cases hlt : i < j
    · obtain ⟨hh, hhe⟩ : ∃ hh, hh = (i + j) / 2 := ⟨_, rfl⟩
      have hh1 : i ≤ hh := by omega
      have hh2 : hh < j := by omega
      have hhL : hh < L.length := by have := Hn.out; omega
      have cM : wr.cell? ⟨g, m, none⟩ = some (ptr y) := by have := hS.row.cell m hmL; rw [(List.getElem_eq_iff hmL).2 HGy.out] at this; exact this
      obtain ⟨x, hx⟩ : ∃ x, x = L[hh] := ⟨_, rfl⟩
      have cH : wr.cell? ⟨g, hh, none⟩ = some (ptr x) := by rw [hx]; exact hS.row.cell hh hhL
      have HC := fun (w' : World) (hw : ∀ a, w'.cell? a = wr.cell? a) => hS.cmp m hh hmL hhL w' hw
      rw [(List.getElem_eq_iff hmL).2 HGy.out, ← hx] at HC
      have HX : Hid (x = L[hh]) := hx
      have HHE : Hid (hh = (i + j) / 2) := hhe
      clear hx hhe
      have i1 : (0 : Int) ≤ (hh : Int) := by omega
      have i2 : (hh : Int) < (n : Int) := by omega
      have i3 : (m : Int) < (n : Int) := by omega
      rcases Bool.eq_false_or_eq_true (ltd kf kl y x) with hyx | hyx
      · have hc := cmp_true hyx
        have Hyx : Hid (ltd kf kl y x = true) := hyx
        clear hyx
        go_wp2
        rw [show ((i : Int) + (j : Int)) / 2 = (hh : Int) from by have := HHE.out; omega]
        go_region_held3 (fun w' => w'.cell? ⟨g, m, none⟩ = some (ptr y) ∧ w'.cell? ⟨g, hh, none⟩ = some (ptr x)) (first | go_keep | (refine ⟨?_, ?_⟩ <;> (rw [hbel.cell (lt_cell (by assumption))]; assumption)))
          ((go_at_call 9; refine (HC _ ?_).mono ?_; (intro a; rfl); rintro e w' ⟨rfl, hbel⟩))
        have hS2 := hS.drew.step hbel
        clear HC hS hbel cM cH
        go_wp2
        go_roundw
        case rel => exact ⟨i, hh, rfl, by go_num, hai, hh1, by omega, hI, fun _ _ => by have := Hyx.out; rw [HX.out] at this; exact this, hS2⟩
        case measure => simp [intOf]; omega
      · have hc := cmp_false hyx
        have Hyx : Hid (ltd kf kl y x = false) := hyx
        clear hyx
        go_wp2
        rw [show ((i : Int) + (j : Int)) / 2 = (hh : Int) from by have := HHE.out; omega]
        go_region_held3 (fun w' => w'.cell? ⟨g, m, none⟩ = some (ptr y) ∧ w'.cell? ⟨g, hh, none⟩ = some (ptr x)) (first | go_keep | (refine ⟨?_, ?_⟩ <;> (rw [hbel.cell (lt_cell (by assumption))]; assumption)))
          ((go_at_call 9; refine (HC _ ?_).mono ?_; (intro a; rfl); rintro e w' ⟨rfl, hbel⟩))
        have hS2 := hS.drew.step hbel
        clear HC hS hbel cM cH
        go_wp2
        go_roundw
        case rel => exact ⟨hh + 1, j, by go_num, rfl, by omega, by omega, hjm, fun _ _ => by have := Hyx.out; rw [HX.out] at this; simpa using this, hJ, hS2⟩
        case measure => simp [intOf]; omega
    · obtain rfl : i = j := by omega
      have hd : decide ((i : Int) < (i : Int)) = false := by simp
      obtain ⟨s, hs⟩ : ∃ s, i = a + s := ⟨i - a, by omega⟩
      have hsP : s ≤ P.length := by have := HM.out; omega
      have hMg : Merged (ltd kf kl) idx P [y] (P.take s ++ y :: P.drop s) := by
        refine merge_right (lessEv_swo kf kl) y P s hsP hr ?_ ?_
        · intro h0
          have h1 : i - 1 < L.length := by have := Hn.out; omega
          have h2 := hI (by omega) h1
          have h3 : L[i - 1] = P[s - 1]'(by omega) := by
            rw [List.getElem_eq_iff, show i - 1 = a + (s - 1) from by omega]
            exact HGp.out (s - 1) (by omega)
          rw [h3] at h2; exact h2
        · intro h0
          have h1 : i < L.length := by have := Hn.out; have := HM.out; omega
          have h2 := hJ (by have := HM.out; omega) h1
          have h3 : L[i] = P[s] := by
            rw [List.getElem_eq_iff, hs]
            exact HGp.out s h0
          rw [h3] at h2; exact h2
      have HMg : Hid (Merged (ltd kf kl) idx P [y] (P.take s ++ y :: P.drop s)) := hMg
      subst hs
      clear hI hJ hr hMg hai hij hjm hlt
      go_wp2
      rw [show ((a + s : Nat) : Int) = (a : Int) + (s : Int) from by omega]
      have hS0 : Srt w0 wr g kf kl (mvd A P C y P.length) := by rw [mvd_full, ← HL.out]; exact hS
      clear hS
      obtain ⟨wo, rfl⟩ : ∃ wo : World, wo = wr := ⟨_, rfl⟩
      have Hnl : Hid (A.length + 1 + P.length + C.length = n) := by show _ = n; have := Hn.out; rw [HL.out] at this; simp at this; omega
      go_loopw [17] (fun kv wi => ∃ (u : Nat), kv = .int .i64 ((a : Int) + (u : Nat)) ∧ s ≤ u ∧ u ≤ P.length ∧ Srt w0 wi g kf kl (mvd A P C y u)) (fun kv _ => (intOf kv).toNat)
      case atStart => exact ⟨P.length, by have := HM.out; go_num, hsP, Nat.le_refl _, hS0⟩
      case round =>
        clear hS0
        obtain ⟨u, rfl, hsu, huP, hS⟩ := hrel
        by_cases hul : s < u
        · obtain ⟨v, rfl⟩ : ∃ v, u = v + 1 := ⟨u - 1, by omega⟩
          rw [show ((v + 1 : Nat) : Int) = (v : Int) + 1 from by omega]
          have hvP : v < P.length := by omega
          have hvn : a + v + 1 < n := by have := Hnl.out; have := HA.out; omega
          have hl := mvd_len A P C y (v + 1) (by omega)
          rw [Hnl.out] at hl
          have gy : (mvd A P C y (v + 1))[a + v + 1]'(by omega) = y := by rw [List.getElem_eq_iff, HA.out, Nat.add_assoc]; exact mvd_x A P C y (v + 1) (by omega)
          have gx : (mvd A P C y (v + 1))[a + v]'(by omega) = P[v] := by rw [List.getElem_eq_iff, HA.out]; exact mvd_back_y A P C y v hvP
          obtain ⟨x, hx⟩ : ∃ x, x = P[v] := ⟨_, rfl⟩
          rw [← hx] at gx
          have cx : wr.cell? ⟨g, a + v, none⟩ = some (ptr x) := by have := hS.row.cell (a + v) (by omega); rw [gx] at this; exact this
          have cy : wr.cell? ⟨g, a + v + 1, none⟩ = some (ptr y) := by have := hS.row.cell (a + v + 1) (by omega); rw [gy] at this; exact this
          have fx : wr.frozen? ⟨g, a + v, none⟩ = false := hS.row.frozen _
          have fy : wr.frozen? ⟨g, a + v + 1, none⟩ = false := hS.row.frozen _
          have HSW : Hid (∀ q, Srt w0 (((wr.drewN q).setCell ⟨g, a + v + 1, none⟩ (ptr x)).setCell ⟨g, a + v, none⟩ (ptr y)) g kf kl (mvd A P C y v)) := by
            intro q
            have h1 := (hS.drewN q).swap (a + v + 1) (a + v) (by omega) (by omega)
            have h2 := mvd_back A P C y v hvP
            rw [← HA.out, ← hx] at h2
            rw [gx, gy, h2] at h1
            exact h1
          clear gx gy hx hl hS hvP
          have i1 : (a : Int) + (v : Int) + 1 < (n : Int) := by omega
          have i4 : (a : Int) + ((v : Int) + 1) = (a : Int) + (v : Int) + 1 := by omega
          rw [i4]
          clear i4
          go_wp2
          go_region
          go_wp2
          go_roundw
          case rel => exact ⟨v, by go_num, by omega, by omega, HSW.out 1⟩
          case measure => simp [intOf]; omega
        · obtain rfl : u = s := by omega
          have hd2 : decide ((a : Int) + (u : Int) < (a : Int) + (u : Int)) = false := by simp
          go_wp2
          exact bodyPost_ret (v := .tuple #[]) (results_none rfl _ _ _) rfl ⟨rfl, _, HMg.out, hS⟩
end Go.Proofs.Ybulkeidm
