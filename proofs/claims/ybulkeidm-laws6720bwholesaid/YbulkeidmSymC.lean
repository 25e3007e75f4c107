/-
  slices.symMergeCmpFunc over pointers, whole: by induction on the length of the two runs.
-/
import Derived.Test.YbulkeidmSymB
import Derived.Deep.CutBlock
import Derived.Deep.CutRange
namespace Go.Proofs.Ybulkeidm
open Go.RowKit

/-- What symMerge does with two runs of at most N elements in all. -/
def SymSpec (N : Nat) : Prop := ∀ (g n c : Nat) (av mv bv : Int) (kf kl : Nat → Int) (idx : Nat → Nat) (A P Q C : List Nat) (w0 w : World), P.length + Q.length ≤ N → Srt w0 w g kf kl (A ++ P ++ Q ++ C) → (A ++ P ++ Q ++ C).length = n → n ≤ 140737488355328 →
    av = (A.length : Nat) → mv = (A.length + P.length : Nat) → bv = (A.length + P.length + Q.length : Nat) → 0 < P.length → 0 < Q.length → Runs (ltd kf kl) idx P Q →
    Calls Yba.prog 20 #[.slice (some ⟨g, 0, none⟩) n c, .int .i64 av, .int .i64 mv, .int .i64 bv, .func (.func 9) #[] #[]] w fun e w' =>
      e = .returned (.tuple #[]) ∧ ∃ R, Merged (ltd kf kl) idx P Q R ∧ Srt w0 w' g kf kl (A ++ R ++ C)

theorem rotate_int (g n c : Nat) (av mv bv : Int) (kf kl : Nat → Int) (A U V C : List Nat) (w0 w : World) (h : Srt w0 w g kf kl (A ++ U ++ V ++ C)) (hn : (A ++ U ++ V ++ C).length = n) (hbig : n ≤ 140737488355328)
    (ha : av = (A.length : Nat)) (hm : mv = (A.length + U.length : Nat)) (hb : bv = (A.length + U.length + V.length : Nat)) (hU : 0 < U.length) (hV : 0 < V.length) :
    Calls Yba.prog 31 #[.slice (some ⟨g, 0, none⟩) n c, .int .i64 av, .int .i64 mv, .int .i64 bv, .func (.func 9) #[] #[]] w fun e w' => e = .returned (.tuple #[]) ∧ Srt w0 w' g kf kl (A ++ V ++ U ++ C) := by
  subst ha hm hb
  exact rotate_any g n c _ _ _ kf kl A U V C w0 w h hn hbig rfl rfl rfl hU hV

/-- The rows behind the search. -/
structure Found (kf kl : Nat → Int) (idx : Nat → Nat) (P Q : List Nat) (s e : Nat) : Prop where
  hs : s ≤ P.length
  he : e ≤ Q.length
  h1 : ∀ (a : 0 < s) (b : e < Q.length), ltd kf kl Q[e] (P[s - 1]'(by omega)) = false
  h2 : ∀ (a : s < P.length) (b : 0 < e), ltd kf kl (Q[e - 1]'(by omega)) P[s] = true

set_option maxHeartbeats 2000000 in
set_option maxRecDepth 100000 in
theorem sym_gen (g n c a m b : Nat) (kf kl : Nat → Int) (idx : Nat → Nat) (A P Q C : List Nat) (w0 w : World) (h : Srt w0 w g kf kl (A ++ P ++ Q ++ C)) (hn : (A ++ P ++ Q ++ C).length = n) (hbig : n ≤ 140737488355328)
    (ha : a = A.length) (hm : m = A.length + P.length) (hb : b = A.length + P.length + Q.length) (hP : 2 ≤ P.length) (hQ : 2 ≤ Q.length) (hr : Runs (ltd kf kl) idx P Q)
    (IH : ∀ N, N < P.length + Q.length → SymSpec N) :
    Calls Yba.prog 20 #[.slice (some ⟨g, 0, none⟩) n c, .int .i64 (a : Nat), .int .i64 (m : Nat), .int .i64 (b : Nat), .func (.func 9) #[] #[]] w fun e w' =>
      e = .returned (.tuple #[]) ∧ ∃ R, Merged (ltd kf kl) idx P Q R ∧ Srt w0 w' g kf kl (A ++ R ++ C) := by
  have e1 : ((m : Int) - (a : Int) == 1) = false := by simp; omega
  have e2 : ((b : Int) - (m : Int) == 1) = false := by simp; omega
  obtain ⟨L, hL⟩ : ∃ L, L = A ++ P ++ Q ++ C := ⟨_, rfl⟩
  rw [← hL] at h hn
  have HGp : Hid (∀ t (ht : t < P.length), L[a + t]? = some P[t]) := by intro t ht; rw [hL, ha]; exact get_P A P Q C t ht
  have HGq : Hid (∀ t (ht : t < Q.length), L[m + t]? = some Q[t]) := by intro t ht; rw [hL, hm]; exact get_Q A P Q C t ht
  have HL : Hid (L = A ++ P ++ Q ++ C) := hL
  have HA : Hid (a = A.length) := ha
  have HM : Hid (m = a + P.length) := by show m = a + P.length; omega
  have HB : Hid (b = m + Q.length) := by show b = m + Q.length; omega
  have l1 : a + 2 ≤ m := by omega
  have l2 : m + 2 ≤ b := by omega
  have l3 : b ≤ n := by rw [hL] at hn; simp at hn; omega
  have Hn : Hid (L.length = n) := hn
  have HIH : Hid (∀ N, N < P.length + Q.length → SymSpec N) := IH
  obtain ⟨mid, hmid⟩ : ∃ mid, mid = (a + b) / 2 := ⟨_, rfl⟩
  have m1 : a < mid := by omega
  have m2 : mid < b := by omega
  have m3 : 2 * mid ≤ a + b := by omega
  have m4 : a + b ≤ 2 * mid + 1 := by omega
  obtain ⟨pp, hpp⟩ : ∃ pp, pp = mid + m - 1 := ⟨_, rfl⟩
  have p1 : (mid : Int) + (m : Int) - 1 = (pp : Int) := by omega
  have HMID : Hid (((a : Int) + (b : Int)) / 2 = (mid : Int)) := by show ((a : Int) + (b : Int)) / 2 = (mid : Int); omega
  have HPP : Hid ((mid : Int) + (m : Int) - 1 = (pp : Int)) := p1
  have HPN : Hid (pp + 1 = mid + m) := by show pp + 1 = mid + m; omega
  clear hL ha hm hb IH hmid hpp p1
  obtain ⟨st0, r0, hst0, hr0, q1, q2, q3, q4, q5, q6⟩ : ∃ st0 r0 : Nat, (st0 : Int) = (if mid < m then (mid : Int) + m - b else a) ∧ (r0 : Int) = (if mid < m then (mid : Int) else m) ∧ a ≤ st0 ∧ st0 ≤ r0 ∧ r0 ≤ m ∧ r0 ≤ mid ∧ (st0 = a ∨ mid + m = b + st0) ∧ (r0 = m ∨ r0 = mid) := by
    by_cases hmm : mid < m
    · exact ⟨mid + m - b, mid, by rw [if_pos hmm]; omega, by rw [if_pos hmm], by omega, by omega, by omega, by omega, by omega, by omega⟩
    · exact ⟨a, m, by rw [if_neg hmm], by rw [if_neg hmm], by omega, by omega, by omega, by omega, by omega, by omega⟩
  have q7 : mid + m ≤ b + st0 := by
    rcases q5 with h5 | h5 <;> omega
  have Hst0 : Hid ((st0 : Int) = (if mid < m then (mid : Int) + m - b else a)) := hst0
  have Hr0 : Hid ((r0 : Int) = (if mid < m then (mid : Int) else m)) := hr0
  clear hst0 hr0
  go_enter Yba.func20, Yba.ntmps20
  go_upto_region 25 with fail
  rw [HMID.out]
  go_upto_if 140 with fail
  go_cut [20, 21] from 138 to 146 (fun s20 s21 wc => s20 = .int .i64 (st0 : Nat) ∧ s21 = .int .i64 (r0 : Nat) ∧ w = wc)
  case first =>
    by_cases hmm : mid < m
    · go_wp2
      go_meet
      have t1 := Hst0.out
      have t2 := Hr0.out
      rw [if_pos hmm] at t1 t2
      exact ⟨by rw [t1], by rw [t2], rfl⟩
    · have hd : decide ((mid : Int) < (m : Int)) = false := by simp; omega
      go_wp2
      go_meet
      have t1 := Hst0.out
      have t2 := Hr0.out
      rw [if_neg hmm] at t1 t2
      exact ⟨by rw [t1], by rw [t2], rfl⟩
  case rest =>
    obtain ⟨rfl, rfl, rfl⟩ := hcut
    go_wp2
    rw [HPP.out]
    go_loopw [20, 21] (fun iv jv wi => ∃ (i j : Nat), iv = .int .i64 (i : Nat) ∧ jv = .int .i64 (j : Nat) ∧ st0 ≤ i ∧ i ≤ j ∧ j ≤ r0 ∧ (∀ (h0 : st0 < i) (h1 : mid + m - i < L.length) (h2 : i - 1 < L.length), ltd kf kl L[mid + m - i] L[i - 1] = false) ∧ (∀ (h0 : j < r0) (h1 : pp - j < L.length) (h2 : j < L.length), ltd kf kl L[pp - j] L[j] = true) ∧ Srt w0 wi g kf kl L)
      (fun iv jv _ => (intOf jv).toNat - (intOf iv).toNat)
    case atStart => exact ⟨st0, r0, rfl, rfl, Nat.le_refl _, by omega, Nat.le_refl _, fun h0 => absurd h0 (by omega), fun h0 => absurd h0 (by omega), h⟩
    case round =>
      clear h hn
      obtain ⟨i, j, rfl, rfl, hai, hij, hjm, hI, hJ, hS⟩ := hrel
      by_cases hlt : i < j
      · obtain ⟨hh, hhe⟩ : ∃ hh, hh = (i + j) / 2 := ⟨_, rfl⟩
        have hh1 : i ≤ hh := by omega
        have hh2 : hh < j := by omega
        have hhL : hh < L.length := by have := Hn.out; omega
        obtain ⟨pc, hpc⟩ : ∃ pc, pc = pp - hh := ⟨_, rfl⟩
        have hpp := HPN.out
        have hpcL : pc < L.length := by have := Hn.out; omega
        obtain ⟨y, hy⟩ : ∃ y, y = L[pc] := ⟨_, rfl⟩
        obtain ⟨x, hx⟩ : ∃ x, x = L[hh] := ⟨_, rfl⟩
        have cM : wr.cell? ⟨g, pc, none⟩ = some (ptr y) := by rw [hy]; exact hS.row.cell pc hpcL
        have cH : wr.cell? ⟨g, hh, none⟩ = some (ptr x) := by rw [hx]; exact hS.row.cell hh hhL
        have HC := fun (w' : World) (hw : ∀ a, w'.cell? a = wr.cell? a) => hS.cmp pc hh hpcL hhL w' hw
        rw [← hy, ← hx] at HC
        have HX : Hid (x = L[hh]) := hx
        have HY : Hid (y = L[pc]) := hy
        have HHE : Hid (hh = (i + j) / 2) := hhe
        have HPC : Hid (pc = pp - hh) := hpc
        have i1 : (0 : Int) ≤ (hh : Int) := by omega
        have i2 : (hh : Int) < (n : Int) := by omega
        have i3 : (pc : Int) < (n : Int) := by omega
        have i4 : IntKind.i64.wrap ((pp : Int) - (hh : Int)) = (pc : Int) := by rw [show (pp : Int) - (hh : Int) = (pc : Int) from by omega]; rw [IntKind.wrap_i64]; omega
        clear hx hy hhe hpc hpp
        rcases Bool.eq_false_or_eq_true (ltd kf kl y x) with hyx | hyx
        · have hc := cmp_true hyx
          have Hyx : Hid (ltd kf kl y x = true) := hyx
          clear hyx
          go_wp2
          rw [show ((i : Int) + (j : Int)) / 2 = (hh : Int) from by have := HHE.out; omega]
          go_region_held3 (fun w' => w'.cell? ⟨g, pc, none⟩ = some (ptr y) ∧ w'.cell? ⟨g, hh, none⟩ = some (ptr x)) (first | go_keep | (refine ⟨?_, ?_⟩ <;> (rw [hbel.cell (lt_cell (by assumption))]; assumption)))
            ((go_at_call 9; refine (HC _ ?_).mono ?_; (intro a; rfl); rintro e w' ⟨rfl, hbel⟩))
          have hS2 := hS.drew.step hbel
          clear HC hS hbel cM cH
          go_wp2
          go_roundw
          case rel => exact ⟨i, hh, rfl, by go_num, hai, hh1, by omega, hI, fun _ _ _ => by have := Hyx.out; rw [HX.out, HY.out] at this; have t := HPC.out; subst t; exact this, hS2⟩
          case measure => simp [intOf]; omega
        · have hc := cmp_false hyx
          have Hyx : Hid (ltd kf kl y x = false) := hyx
          clear hyx
          go_wp2
          rw [show ((i : Int) + (j : Int)) / 2 = (hh : Int) from by have := HHE.out; omega]
          go_region_held3 (fun w' => w'.cell? ⟨g, pc, none⟩ = some (ptr y) ∧ w'.cell? ⟨g, hh, none⟩ = some (ptr x)) (first | go_keep | (refine ⟨?_, ?_⟩ <;> (rw [hbel.cell (lt_cell (by assumption))]; assumption)))
            ((go_at_call 9; refine (HC _ ?_).mono ?_; (intro a; rfl); rintro e w' ⟨rfl, hbel⟩))
          have hS2 := hS.drew.step hbel
          clear HC hS hbel cM cH
          go_wp2
          go_roundw
          case rel => exact ⟨hh + 1, j, by go_num, rfl, by omega, by omega, hjm, fun _ _ _ => by have := Hyx.out; rw [HX.out, HY.out] at this; have t := HPC.out; have t2 := HPN.out; subst t; simp only [show mid + m - (hh + 1) = pp - hh from by omega, Nat.add_sub_cancel]; exact this, hJ, hS2⟩
          case measure => simp [intOf]; omega
      · obtain rfl : i = j := by omega
        have hd : decide ((i : Int) < (i : Int)) = false := by simp
        obtain ⟨s, hs⟩ : ∃ s, i = a + s := ⟨i - a, by omega⟩
        obtain ⟨e, he⟩ : ∃ e, mid = i + e := ⟨mid - i, by omega⟩
        have hF : Found kf kl idx P Q s e := by
          have t1 := HM.out
          have t2 := HB.out
          have t3 := HPN.out
          have t4 := Hn.out
          refine ⟨by omega, by omega, ?_, ?_⟩
          · intro h0 h1
            have h2 := hI (by rcases q5 with h5 | h5 <;> omega) (by omega) (by omega)
            have h3 : L[mid + m - i]'(by omega) = Q[e] := by
              rw [List.getElem_eq_iff, show mid + m - i = m + e from by omega]
              exact HGq.out e h1
            have h4 : L[i - 1]'(by omega) = P[s - 1]'(by omega) := by
              rw [List.getElem_eq_iff, show i - 1 = a + (s - 1) from by omega]
              exact HGp.out (s - 1) (by omega)
            rw [h3, h4] at h2; exact h2
          · intro h0 h1
            have h2 := hJ (by rcases q6 with h5 | h5 <;> omega) (by omega) (by omega)
            have h3 : L[pp - i]'(by omega) = Q[e - 1]'(by omega) := by
              rw [List.getElem_eq_iff, show pp - i = m + (e - 1) from by omega]
              exact HGq.out (e - 1) (by omega)
            have h4 : L[i]'(by omega) = P[s]'(by omega) := by
              rw [List.getElem_eq_iff, hs]
              exact HGp.out s (by omega)
            rw [h3, h4] at h2; exact h2
        have HF : Hid (Found kf kl idx P Q s e) := hF
        clear hI hJ hF
        have Hs : Hid (i = a + s) := hs
        have He : Hid (mid = i + e) := he
        clear hs he q5 q6
        have f1 := HF.out.hs
        have f2 := HF.out.he
        have y1 : mid + m ≤ b + i := by have := HB.out; have := He.out; omega
        have HL1 : Hid (L = (A ++ P.take s) ++ (P.drop s) ++ (Q.take e) ++ (Q.drop e ++ C)) := by
          show L = _
          rw [HL.out]
          conv => lhs; rw [← List.take_append_drop s P, ← List.take_append_drop e Q]
          simp only [List.append_assoc]
        have Hwr : Hid (Srt w0 wr g kf kl L) := hS
        clear hS
        have hlt2 : ¬ i < i := hlt
        clear hlt hd
        obtain ⟨en, hen⟩ : ∃ en, en = mid + m - i := ⟨_, rfl⟩
        have HEN : Hid ((mid : Int) + (m : Int) - (i : Int) = (en : Int)) := by show (mid : Int) + (m : Int) - (i : Int) = (en : Int); omega
        have z1 : m ≤ en := by omega
        have z2 : en ≤ b := by omega
        have z3 : mid ≤ en := by omega
        have HEN2 : Hid (en = mid + m - i) := hen
        clear hen
        obtain ⟨b0, hb0⟩ : ∃ b0 : Bool, b0 = decide (i < m ∧ m < en) := ⟨_, rfl⟩
        have Hb0 : Hid (b0 = decide (i < m ∧ m < en)) := hb0
        obtain ⟨b1, hb1⟩ : ∃ b1 : Bool, b1 = decide (a < i ∧ i < mid) := ⟨_, rfl⟩
        have Hb1 : Hid (b1 = decide (a < i ∧ i < mid)) := hb1
        obtain ⟨b2, hb2⟩ : ∃ b2 : Bool, b2 = decide (mid < en ∧ en < b) := ⟨_, rfl⟩
        have Hb2 : Hid (b2 = decide (mid < en ∧ en < b)) := hb2
        clear hb0 hb1 hb2
        go_upto_region 39 with fail
        rw [HEN.out]
        obtain ⟨ww, rfl⟩ : ∃ ww : World, ww = wr := ⟨_, rfl⟩
        go_cut [185] from 178 to 185 (fun sv wc => sv = .bool b0 ∧ ww = wc)
        case first =>
          by_cases c1 : i < m
          · by_cases c2 : m < en
            · go_wp2
              go_meet
              rw [show b0 = true from by rw [Hb0.out]; simp; omega]
              exact ⟨rfl, rfl⟩
            · have d2 : decide ((m : Int) < (en : Int)) = false := by simp; omega
              go_wp2
              go_meet
              rw [show b0 = false from by rw [Hb0.out]; simp; omega]
              exact ⟨rfl, rfl⟩
          · have d1 : decide ((i : Int) < (m : Int)) = false := by simp; omega
            go_wp2
            go_meet
            rw [show b0 = false from by rw [Hb0.out]; simp; omega]
            exact ⟨rfl, rfl⟩
        obtain ⟨rfl, rfl⟩ := hcut
        go_upto_if 185 with fail
        go_cut [] from 185 to 191 (fun wc => Srt w0 wc g kf kl (A ++ P.take s ++ Q.take e ++ (P.drop s ++ Q.drop e ++ C)))
        case first =>
          rcases Bool.eq_false_or_eq_true b0 with hb | hb
          · have hdec : i < m ∧ m < en := by have := Hb0.out; rw [hb] at this; simpa using this.symm
            have HS := rotate_int g n c (i : Int) (m : Int) (en : Int) kf kl (A ++ P.take s) (P.drop s) (Q.take e) (Q.drop e ++ C) w0 ww (by rw [← HL1.out]; exact Hwr.out) (by rw [← HL1.out]; exact Hn.out) hbig
              (by have := HA.out; have := Hs.out; simp; omega) (by have := HA.out; have := Hs.out; have := HM.out; simp; omega) (by have := HA.out; have := Hs.out; have := HM.out; have := HEN2.out; have := He.out; simp; omega)
              (by have := Hs.out; have := HM.out; simp; omega) (by have := He.out; have := HEN2.out; simp; omega)
            rw [hb]
            clear hb hdec
            go_wp2_with fail
            refine HS.mono ?_
            clear HS
            rintro e w1 ⟨rfl, hS1⟩
            go_wp2
            go_meet
            simpa using hS1
          · have hdec : ¬ (i < m ∧ m < en) := by have := Hb0.out; rw [hb] at this; simpa using this.symm
            have hS1 : Srt w0 ww g kf kl (A ++ P.take s ++ Q.take e ++ (P.drop s ++ Q.drop e ++ C)) := by
              have h1 := Hwr.out
              rw [HL1.out] at h1
              by_cases h2 : i < m
              · have : e = 0 := by have := He.out; have := HEN2.out; omega
                subst this
                simp only [List.take_zero, List.drop_zero, List.append_nil, List.append_assoc] at h1 ⊢
                exact h1
              · have h3 : P.drop s = [] := by rw [List.drop_eq_nil_iff]; have := Hs.out; have := HM.out; omega
                rw [h3] at h1 ⊢
                simpa using h1
            rw [hb]
            clear hb hdec
            go_wp2
            go_meet
            exact hS1
        clear Hwr
        clear ww
        obtain ⟨ww, rfl⟩ : ∃ ww : World, ww = wc := ⟨_, rfl⟩
        have hl2 : (A ++ P.take s ++ Q.take e ++ (P.drop s ++ Q.drop e ++ C)).length = n := by have h1 := Hn.out; rw [HL1.out] at h1; simp at h1 ⊢; omega
        have Hl2 : Hid ((A ++ P.take s ++ Q.take e ++ (P.drop s ++ Q.drop e ++ C)).length = n) := hl2
        clear hl2
        have Hww : Hid (Srt w0 ww g kf kl (A ++ P.take s ++ Q.take e ++ (P.drop s ++ Q.drop e ++ C))) := hcut
        clear hcut
        go_upto_region 41 with fail
        go_cut [199] from 192 to 199 (fun sv wc => sv = .bool b1 ∧ ww = wc)
        case first =>
          by_cases c1 : a < i
          · by_cases c2 : i < mid
            · go_wp2
              go_meet
              rw [show b1 = true from by rw [Hb1.out]; simp; omega]
              exact ⟨rfl, rfl⟩
            · have d2 : decide ((i : Int) < (mid : Int)) = false := by simp; omega
              go_wp2
              go_meet
              rw [show b1 = false from by rw [Hb1.out]; simp; omega]
              exact ⟨rfl, rfl⟩
          · have d1 : decide ((a : Int) < (i : Int)) = false := by simp; omega
            go_wp2
            go_meet
            rw [show b1 = false from by rw [Hb1.out]; simp; omega]
            exact ⟨rfl, rfl⟩
        obtain ⟨rfl, rfl⟩ := hcut
        go_upto_if 199 with fail
        go_cut [] from 199 to 205 (fun wc => ∃ R1, Merged (ltd kf kl) idx (P.take s) (Q.take e) R1 ∧ Srt w0 wc g kf kl (A ++ R1 ++ (P.drop s ++ Q.drop e ++ C)))
        case first =>
          rcases Bool.eq_false_or_eq_true b1 with hb | hb
          · have hdec : a < i ∧ i < mid := by have := Hb1.out; rw [hb] at this; simpa using this.symm
            have HS := HIH.out (P.length + Q.length - 1) (by omega) g n c (a : Int) (i : Int) (mid : Int) kf kl idx A (P.take s) (Q.take e) (P.drop s ++ Q.drop e ++ C) w0 ww
              (by have := Hs.out; have := He.out; have := HM.out; have := HB.out; simp; omega) Hww.out Hl2.out hbig
              (by rw [HA.out]) (by have := HA.out; have := Hs.out; simp; omega) (by have := HA.out; have := Hs.out; have := He.out; simp; omega)
              (by have := Hs.out; simp; omega) (by have := He.out; simp; omega) (hr.takes s e)
            rw [hb]
            clear hb hdec
            go_wp2_with fail
            refine HS.mono ?_
            clear HS
            rintro e w1 ⟨rfl, R1, hM1, hS1⟩
            go_wp2
            go_meet
            exact ⟨R1, hM1, hS1⟩
          · have hdec : ¬ (a < i ∧ i < mid) := by have := Hb1.out; rw [hb] at this; simpa using this.symm
            have hS1 : ∃ R1, Merged (ltd kf kl) idx (P.take s) (Q.take e) R1 ∧ Srt w0 ww g kf kl (A ++ R1 ++ (P.drop s ++ Q.drop e ++ C)) := by
              have h1 := Hww.out
              have hT := hr.takes s e
              by_cases h2 : a < i
              · have : e = 0 := by have := He.out; omega
                subst this
                refine ⟨P.take s, by simpa using merged_left hT.left, by simpa using h1⟩
              · have : s = 0 := by have := Hs.out; omega
                subst this
                refine ⟨Q.take e, by simpa using merged_right hT.right, by simpa using h1⟩
            rw [hb]
            clear hb hdec
            go_wp2
            go_meet
            exact hS1
        clear Hww
        clear ww
        obtain ⟨ww, rfl⟩ : ∃ ww : World, ww = wc := ⟨_, rfl⟩
        obtain ⟨R1, hM1, hW1⟩ := hcut
        have hR1 : R1.length = s + e := by rw [hM1.perm.length_eq]; simp; omega
        have HR1 : Hid (R1.length = s + e) := hR1
        clear hR1
        have Hww : Hid (Srt w0 ww g kf kl ((A ++ R1) ++ P.drop s ++ Q.drop e ++ C)) := by simpa [Hid] using hW1
        clear hW1
        go_upto_region 43 with fail
        go_cut [213] from 206 to 213 (fun sv wc => sv = .bool b2 ∧ ww = wc)
        case first =>
          by_cases c1 : mid < en
          · by_cases c2 : en < b
            · go_wp2
              go_meet
              rw [show b2 = true from by rw [Hb2.out]; simp; omega]
              exact ⟨rfl, rfl⟩
            · have d2 : decide ((en : Int) < (b : Int)) = false := by simp; omega
              go_wp2
              go_meet
              rw [show b2 = false from by rw [Hb2.out]; simp; omega]
              exact ⟨rfl, rfl⟩
          · have d1 : decide ((mid : Int) < (en : Int)) = false := by simp; omega
            go_wp2
            go_meet
            rw [show b2 = false from by rw [Hb2.out]; simp; omega]
            exact ⟨rfl, rfl⟩
        obtain ⟨rfl, rfl⟩ := hcut
        go_upto_if 213 with fail
        rcases Bool.eq_false_or_eq_true b2 with hb | hb
        · have hdec : mid < en ∧ en < b := by have := Hb2.out; rw [hb] at this; simpa using this.symm
          have HS := HIH.out (P.length + Q.length - 1) (by omega) g n c (mid : Int) (en : Int) (b : Int) kf kl idx (A ++ R1) (P.drop s) (Q.drop e) C w0 ww
            (by have := Hs.out; have := He.out; have := HM.out; have := HB.out; simp; omega) Hww.out (by have h9 := Hl2.out; have := HR1.out; simp at h9 ⊢; omega) hbig
            (by have := HA.out; have := HR1.out; have := Hs.out; have := He.out; simp; omega) (by have := HA.out; have := HR1.out; have := Hs.out; have := He.out; have := HEN2.out; have := HM.out; simp; omega)
            (by have := HA.out; have := HR1.out; have := Hs.out; have := He.out; have := HEN2.out; have := HM.out; have := HB.out; simp; omega)
            (by have := HEN2.out; have := HM.out; have := Hs.out; simp; omega) (by have := HEN2.out; have := He.out; have := HB.out; simp; omega) (hr.drops s e)
          rw [hb]
          clear hb hdec
          go_wp2_with fail
          refine HS.mono ?_
          clear HS
          rintro e1 w1 ⟨rfl, R2, hM2, hS1⟩
          go_wp2
          go_end0
          exact ⟨rfl, R1 ++ R2, merge_halves (lessEv_swo kf kl) P Q s e HF.out.hs HF.out.he hr HF.out.h1 HF.out.h2 hM1 hM2, by simpa using hS1⟩
        · have hdec : ¬ (mid < en ∧ en < b) := by have := Hb2.out; rw [hb] at this; simpa using this.symm
          have hS1 : ∃ R2, Merged (ltd kf kl) idx (P.drop s) (Q.drop e) R2 ∧ Srt w0 ww g kf kl (A ++ (R1 ++ R2) ++ C) := by
            have h1 := Hww.out
            have hT := hr.drops s e
            by_cases h2 : mid < en
            · have h3 : Q.drop e = [] := by rw [List.drop_eq_nil_iff]; have := He.out; have := HEN2.out; have := HB.out; omega
              rw [h3] at h1 ⊢
              refine ⟨P.drop s, merged_left hT.left, by simpa using h1⟩
            · have h3 : P.drop s = [] := by rw [List.drop_eq_nil_iff]; have := HEN2.out; have := Hs.out; have := HM.out; omega
              rw [h3] at h1 ⊢
              refine ⟨Q.drop e, merged_right hT.right, by simpa using h1⟩
          obtain ⟨R2, hM2, hS2⟩ := hS1
          rw [hb]
          clear hb hdec
          go_wp2
          go_end0
          exact ⟨rfl, R1 ++ R2, merge_halves (lessEv_swo kf kl) P Q s e HF.out.hs HF.out.he hr HF.out.h1 HF.out.h2 hM1 hM2, hS2⟩

theorem sym_any : ∀ N, SymSpec N := by
  intro N
  induction N using Nat.strongRecOn with
  | ind N ih =>
    intro g n c av mv bv kf kl idx A P Q C w0 w hN h hn hbig ha hm hb hP hQ hr
    subst ha hm hb
    match P, hP with
    | [x], _ => exact sym_left g n c _ _ _ kf kl idx A Q C x w0 w h hn hbig rfl rfl rfl hQ hr
    | x :: x' :: P', _ =>
      match Q, hQ with
      | [y], _ => exact sym_right g n c _ _ _ kf kl idx A (x :: x' :: P') C y w0 w h hn hbig rfl rfl rfl (by simp) hr
      | y :: y' :: Q', _ => exact sym_gen g n c _ _ _ kf kl idx A (x :: x' :: P') (y :: y' :: Q') C w0 w h hn hbig rfl rfl rfl (by simp) (by simp) hr (fun M hM => ih M (by omega))
end Go.Proofs.Ybulkeidm
