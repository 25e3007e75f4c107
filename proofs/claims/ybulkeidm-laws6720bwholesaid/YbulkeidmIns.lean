/-
  slices.insertionSortCmpFunc over pointers: it sorts the middle of the row.
-/
import Derived.Test.YbulkeidmMem
import Derived.Deep.LoopGhost
namespace Go.Proofs.Ybulkeidm
open Go.RowKit

/-- The reads' order, by their blocks. -/
def ltd (kf kl : Nat → Int) (d1 d2 : Nat) : Bool := lessEv (kf d1) (kl d1) (kf d2) (kl d2)

/-- What holds while a sort of block g goes on: the keys, the row, all else as it was. -/
structure Srt (w wr : World) (g : Nat) (kf kl : Nat → Int) (L : List Nat) : Prop where
  row : PRow wr g L
  key : ∀ d ∈ L, KeyG wr g d (kf d) (kl d)
  gr : w.grownBy wr (some g)

theorem Srt.step {w wr w1 : World} {g : Nat} {kf kl : Nat → Int} {L : List Nat} (h : Srt w wr g kf kl L) (hb : Below wr.heap.size wr w1) : Srt w w1 g kf kl L :=
  ⟨h.row.block (hb.block g h.row.lt), fun d hd => (h.key d hd).grown (grown_below g hb), h.gr.trans (grown_below g hb)⟩

theorem Srt.drewN {w wr : World} {g : Nat} {kf kl : Nat → Int} {L : List Nat} (h : Srt w wr g kf kl L) (q : Nat) : Srt w (wr.drewN q) g kf kl L := h.step (below_drewN (Below.refl _ _) q)
theorem Srt.drew {w wr : World} {g : Nat} {kf kl : Nat → Int} {L : List Nat} (h : Srt w wr g kf kl L) : Srt w wr.drew g kf kl L := h.step (Below.refl _ _).drew

theorem Srt.set {w wr : World} {g : Nat} {kf kl : Nat → Int} {L : List Nat} (h : Srt w wr g kf kl L) (j d : Nat) (hj : j < L.length) (hd : d ∈ L) : Srt w (wr.setCell ⟨g, j, none⟩ (ptr d)) g kf kl (L.set j d) :=
  ⟨h.row.set j d hj, fun x hx => by
    have : x ∈ L := by
      rcases List.mem_or_eq_of_mem_set hx with h1 | h1
      · exact h1
      · rw [h1]; exact hd
    exact (h.key x this).grown (grown_setCell _ _ _ _), h.gr.trans (grown_setCell _ _ _ _)⟩

theorem Srt.swap {w wr : World} {g : Nat} {kf kl : Nat → Int} {L : List Nat} (h : Srt w wr g kf kl L) (i j : Nat) (hi : i < L.length) (hj : j < L.length) :
    Srt w ((wr.setCell ⟨g, i, none⟩ (ptr L[j])).setCell ⟨g, j, none⟩ (ptr L[i])) g kf kl ((L.set i L[j]).set j L[i]) := by
  have h1 := h.set i L[j] hi (List.getElem_mem _)
  refine ⟨(h1.row).set j L[i] (by simpa using hj), ?_, h1.gr.trans (grown_setCell _ _ _ _)⟩
  intro x hx
  have hxL : x ∈ L := by
    rcases List.mem_or_eq_of_mem_set hx with h2 | h2
    · rcases List.mem_or_eq_of_mem_set h2 with h3 | h3
      · exact h3
      · rw [h3]; exact List.getElem_mem _
    · rw [h2]; exact List.getElem_mem _
  exact ((h.key x hxL).grown (grown_setCell _ _ _ _)).grown (grown_setCell _ _ _ _)

/-- The comparer's call, at two places of the row. -/
theorem Srt.cmp {w wr : World} {g : Nat} {kf kl : Nat → Int} {L : List Nat} (h : Srt w wr g kf kl L) (i j : Nat) (hi : i < L.length) (hj : j < L.length) (w' : World) (hw : ∀ a, w'.cell? a = wr.cell? a) :
    Calls Yba.prog 9 #[ptr L[i], ptr L[j]] w' fun e w1 => e = .returned (.int .i64 (cmpEv (kf L[i]) (kl L[i]) (kf L[j]) (kl L[j]))) ∧ Below w'.heap.size w' w1 := by
  have k1 := (h.key L[i] (List.getElem_mem _)).key
  have k2 := (h.key L[j] (List.getElem_mem _)).key
  refine closure_any L[i] L[j] _ _ _ _ w' ?_ ?_
  · obtain ⟨e, h1, h2, h3⟩ := k1.ex
    exact ⟨e, by rw [hw]; exact h1, by rw [hw]; exact h2, by rw [hw]; exact h3⟩
  · obtain ⟨e, h1, h2, h3⟩ := k2.ex
    exact ⟨e, by rw [hw]; exact h1, by rw [hw]; exact h2, by rw [hw]; exact h3⟩

theorem get_x (pre P S post : List Nat) (x y m : Nat) (hm : m = pre.length + P.length + 1) (h : m < (pre ++ (P ++ [y]) ++ x :: S ++ post).length) : (pre ++ (P ++ [y]) ++ x :: S ++ post)[m] = x := by
  subst hm
  rw [List.getElem_eq_iff]
  have e : pre ++ (P ++ [y]) ++ x :: S ++ post = (pre ++ P ++ [y]) ++ x :: (S ++ post) := by simp
  rw [e, List.getElem?_append_right (by simp; omega)]
  simp [Nat.add_assoc]
  rfl
theorem get_y (pre P S post : List Nat) (x y m : Nat) (hm : m = pre.length + P.length + 1) (h : m - 1 < (pre ++ (P ++ [y]) ++ x :: S ++ post).length) : (pre ++ (P ++ [y]) ++ x :: S ++ post)[m - 1] = y := by
  subst hm
  rw [List.getElem_eq_iff]
  have e : pre ++ (P ++ [y]) ++ x :: S ++ post = (pre ++ P) ++ y :: (x :: (S ++ post)) := by simp
  rw [e, List.getElem?_append_right (by simp)]
  simp

set_option maxHeartbeats 1000000 in
set_option maxRecDepth 100000 in
theorem ins_any (g n c : Nat) (a b : Nat) (kf kl : Nat → Int) (L : List Nat) (w0 w : World) (h : Srt w0 w g kf kl L) (hn : L.length = n) (hbig : n ≤ 140737488355328) (hab : a < b) (hbn : b ≤ n) :
    Calls Yba.prog 19 #[.slice (some ⟨g, 0, none⟩) n c, .int .i64 (a : Nat), .int .i64 (b : Nat), .func (.func 9) #[] #[]] w fun e w' => e = .returned (.tuple #[]) ∧ Srt w0 w' g kf kl (isortSeg (ltd kf kl) a b L) := by
  go_enter Yba.func19, Yba.ntmps19
  go_wp2
  go_loopw [8] (fun i wr => ∃ k : Nat, a + 1 ≤ k ∧ k ≤ b ∧ i = .int .i64 (k : Nat) ∧ Srt w0 wr g kf kl (isortSeg (ltd kf kl) a k L)) (fun i _ => b - (intOf i).toNat)
  case atStart => exact ⟨a + 1, Nat.le_refl _, hab, by go_num, by rw [isortSeg_start _ a L (by omega)]; exact h⟩
  case round =>
    obtain ⟨k, hk1, hk2, rfl, hS⟩ := hrel
    by_cases hlt : k < b
    · have hkn : k < L.length := by omega
      obtain ⟨x, hx⟩ : ∃ x, x = L[k] := ⟨_, rfl⟩
      obtain ⟨sg, hsg⟩ : ∃ sg, sg = isort (ltd kf kl) ((L.take k).drop a) := ⟨_, rfl⟩
      have hsl : sg.length = k - a := by rw [hsg, isort_length, List.length_drop, List.length_take]; omega
      have hS' : Srt w0 wr g kf kl (L.take a ++ sg ++ x :: [] ++ L.drop (k + 1)) := by
        have := hS
        rw [isortSeg, ← hsg, List.drop_eq_getElem_cons hkn, ← hx] at this
        simpa using this
      have HT : Hid (isortSeg (ltd kf kl) a (k + 1) L = L.take a ++ (insRev (ltd kf kl) x sg.reverse).reverse ++ L.drop (k + 1)) := by
        show isortSeg (ltd kf kl) a (k + 1) L = _
        rw [isortSeg_succ _ a k L (by omega) hkn, ← hsg, ← hx]
      have hta : (L.take a).length = a := by rw [List.length_take]; omega
      have hdl : (L.drop (k + 1)).length = n - k - 1 := by rw [List.length_drop, hn]; omega
      obtain ⟨pre, hpre⟩ : ∃ pre, pre = L.take a := ⟨_, rfl⟩
      obtain ⟨post, hpost⟩ : ∃ post, post = L.drop (k + 1) := ⟨_, rfl⟩
      rw [← hpre, ← hpost] at hS' HT
      rw [← hpre] at hta
      rw [← hpost] at hdl
      clear hS hx hsg hpre hpost hkn
      obtain ⟨wo, rfl⟩ : ∃ wo : World, wo = wr := ⟨_, rfl⟩
      go_wp2
      go_loopw [9] (fun jv wi => ∃ (m : Nat) (P S : List Nat), jv = .int .i64 (m : Nat) ∧ m = a + P.length ∧ P.length + S.length = k - a ∧ Srt w0 wi g kf kl (pre ++ P ++ x :: S ++ post) ∧
          S.reverse ++ insRev (ltd kf kl) x P.reverse = insRev (ltd kf kl) x sg.reverse) (fun jv _ => (intOf jv).toNat)
      case atStart => exact ⟨k, sg, [], rfl, by omega, by simp; omega, hS', by simp⟩
      case round =>
        clear hS'
        obtain ⟨m, P, S, rfl, hm, hPS, hI, hins⟩ := hrel
        rcases List.eq_nil_or_concat P with rfl | ⟨P', y, rfl⟩
        · have hd : decide ((a : Int) < (m : Int)) = false := by simp at hm; simp; omega
          have hdn : decide (a < m) = false := by simp at hm; simp; omega
          have hmk : m ≤ k := by simp at hm; omega
          have HE : Hid (Srt w0 wr g kf kl (isortSeg (ltd kf kl) a (k + 1) L)) := by
            show Srt w0 wr g kf kl (isortSeg (ltd kf kl) a (k + 1) L)
            rw [HT.out, ← hins]
            simpa [insRev] using hI
          clear hm hPS hI hins
          go_wp2
          go_quiet (fail)
          go_wp2
          go_roundw
          case rel => exact ⟨k + 1, by omega, by omega, by go_num, HE.out.drewN _⟩
          case measure => simp [intOf]; omega
        · rw [List.concat_eq_append] at hm hPS hI hins
          have hma : a < m := by simp at hm; omega
          have hmk : m ≤ k := by simp at hm hPS; omega
          obtain ⟨p, rfl⟩ : ∃ p, m = p + 1 := ⟨m - 1, by omega⟩
          rw [show ((p + 1 : Nat) : Int) = (p : Int) + 1 from by omega]
          have HH : Hid (p + 1 = pre.length + P'.length + 1) := by show p + 1 = _; simp at hm; omega
          have Hins : Hid (S.reverse ++ insRev (ltd kf kl) x (P' ++ [y]).reverse = insRev (ltd kf kl) x sg.reverse) := hins
          have HPS : Hid (P'.length + 1 + S.length = k - a) := by show P'.length + 1 + S.length = k - a; simp at hPS; omega
          have hlen : (pre ++ (P' ++ [y]) ++ x :: S ++ post).length = n := by simp at hm hPS ⊢; omega
          have gx : (pre ++ (P' ++ [y]) ++ x :: S ++ post)[p + 1]'(by omega) = x := get_x pre P' S post x y (p + 1) HH.out _
          have gy : (pre ++ (P' ++ [y]) ++ x :: S ++ post)[p]'(by omega) = y := get_y pre P' S post x y (p + 1) HH.out _
          have HSW : Hid (∀ w', Srt w0 w' g kf kl (pre ++ (P' ++ [y]) ++ x :: S ++ post) → Srt w0 ((w'.setCell ⟨g, p + 1, none⟩ (ptr y)).setCell ⟨g, p, none⟩ (ptr x)) g kf kl (pre ++ P' ++ x :: (y :: S) ++ post)) := by
            intro w' h'
            have := h'.swap (p + 1) p (by omega) (by omega)
            have e := set_swap pre P' S post x y (p + 1) HH.out
            rw [Nat.add_sub_cancel] at e
            rw [gx, gy, e] at this
            exact this
          have cx : wr.cell? ⟨g, p + 1, none⟩ = some (ptr x) := by have := hI.row.cell (p + 1) (by omega); rw [gx] at this; exact this
          have cy : wr.cell? ⟨g, p, none⟩ = some (ptr y) := by have := hI.row.cell p (by omega); rw [gy] at this; exact this
          have HC := fun (w' : World) (hw : ∀ a, w'.cell? a = wr.cell? a) => hI.cmp (p + 1) p (by omega) (by omega) w' hw
          rw [gx, gy] at HC
          clear hm hins gx gy hPS hlen
          have i0 : decide ((a : Int) < (p : Int) + 1) = true := by simp; omega
          have i01 : decide (a < p + 1) = true := by simp; omega
          have i02 : a ≤ p := by omega
          have i1 : (p : Int) < (n : Int) := by omega
          have i6 : (0 : Int) ≤ (p : Int) + 1 := by omega
          have i7 : p + 1 < n := by omega
          have i3 : (p : Int) + 1 < (n : Int) := by omega
          have i4 : IntKind.i64.wrap (p : Int) = (p : Int) := by rw [IntKind.wrap_i64]; omega
          have i5 : ((p : Int) + 1).toNat = p + 1 := by omega
          by_cases hxy : ltd kf kl x y = true
          · have hneg : cmpEv (kf x) (kl x) (kf y) (kl y) < 0 := (cmpEv_neg _ _ _ _).2 hxy
            have Hxy : Hid (ltd kf kl x y = true) := hxy
            clear hxy
            go_wp2
            go_region_held3 (fun w' => w'.cell? ⟨g, p + 1, none⟩ = some (ptr x) ∧ w'.cell? ⟨g, p, none⟩ = some (ptr y)) (first | go_keep | (refine ⟨?_, ?_⟩ <;> (rw [hbel.cell (lt_cell (by assumption))]; assumption)))
              ((go_at_call 9; refine (HC _ ?_).mono ?_; (intro a; rfl); rintro e w' ⟨rfl, hbel⟩))
            have hI2 := hI.drew.step hbel
            have cx2 : w'.cell? ⟨g, p + 1, none⟩ = some (ptr x) := by rw [hbel.cell (lt_cell cx)]; exact cx
            have cy2 : w'.cell? ⟨g, p, none⟩ = some (ptr y) := by rw [hbel.cell (lt_cell cy)]; exact cy
            have fx2 : w'.frozen? ⟨g, p + 1, none⟩ = false := hI2.row.frozen (p + 1)
            have fy2 : w'.frozen? ⟨g, p, none⟩ = false := hI2.row.frozen p
            clear HC hI hbel cx cy
            go_wp2
            go_region
            go_wp2
            go_roundw
            case rel =>
              refine ⟨p, P', y :: S, rfl, by have := HH.out; omega, by have := HPS.out; simp; omega, (HSW.out _ hI2).drew, ?_⟩
              have e := Hins.out
              rw [List.reverse_append, List.reverse_singleton, List.singleton_append, insRev, if_pos Hxy.out] at e
              rw [← e]
              simp
            case measure => simp [intOf]
          · have hneg : decide (cmpEv (kf x) (kl x) (kf y) (kl y) < 0) = false := by
              simp only [decide_eq_false_iff_not]
              intro hh
              exact hxy ((cmpEv_neg _ _ _ _).1 hh)
            have HE : Hid (∀ w', Srt w0 w' g kf kl (pre ++ (P' ++ [y]) ++ x :: S ++ post) → Srt w0 w' g kf kl (isortSeg (ltd kf kl) a (k + 1) L)) := by
              intro w' h'
              have e := Hins.out
              rw [List.reverse_append, List.reverse_singleton, List.singleton_append, insRev, if_neg hxy] at e
              rw [HT.out, ← e]
              simpa using h'
            clear hxy
            go_wp2
            go_region_held3 (fun w' => w'.cell? ⟨g, p + 1, none⟩ = some (ptr x) ∧ w'.cell? ⟨g, p, none⟩ = some (ptr y)) (first | go_keep | (refine ⟨?_, ?_⟩ <;> (rw [hbel.cell (lt_cell (by assumption))]; assumption)))
              ((go_at_call 9; refine (HC _ ?_).mono ?_; (intro a; rfl); rintro e w' ⟨rfl, hbel⟩))
            have hI2 := hI.drew.step hbel
            clear HC hI hbel cx cy
            go_wp2
            go_roundw
            case rel => exact ⟨k + 1, by omega, by omega, by go_num, HE.out _ hI2⟩
            case measure => simp [intOf]; omega
    · obtain rfl : k = b := by omega
      have hd : decide ((k : Int) < (k : Int)) = false := by simp
      go_wp2
      go_end0
      exact ⟨rfl, hS⟩
end Go.Proofs.Ybulkeidm
