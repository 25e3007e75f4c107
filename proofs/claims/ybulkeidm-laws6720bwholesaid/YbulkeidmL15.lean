/-
  LawS6720BWhole: the insertion sort of the expected reads.
-/
import Derived.Test.YbulkeidmL16
namespace Go.Proofs.Ybulkeidm
open Go.RowKit

theorem isort_take1 (lt : Nat → Nat → Bool) (L : List Nat) : isort lt (L.take 1) ++ L.drop 1 = L := by
  cases L with
  | nil => rfl
  | cons a r => simp [isort_one]
theorem set_hole (P S post : List Nat) (p z : Nat) : (P ++ z :: S ++ post).set P.length p = P ++ p :: S ++ post := by
  simp

set_option maxHeartbeats 4000000 in
set_option maxRecDepth 100000 in
theorem loop15 (x : Nat → Value) (w : World) (Q : Exit → Act → World → Prop) (xb m : Nat) (kf kl : Nat → Int) (L : List Nat) (h58 : x 58 = .slice (some ⟨xb, 0, none⟩) m m) (h59 : x 59 = .int .i64 1)
    (hL : L.length = m) (hmb : m ≤ 1954687338268) (hR : PRow w xb L) (hK : ∀ d ∈ L, KeyG w xb d (kf d) (kl d))
    (hexit : ∀ x' w', Live [(0, x 0), (8, x 8), (9, x 9), (10, x 10), (11, x 11), (12, x 12), (13, x 13), (42, x 42), (52, x 52), (53, x 53), (55, x 55), (57, x 57), (58, x 58), (538, x 538), (539, x 539)] x' → w.grownBy w' (some xb) → PRow w' xb (isort (ltd kf kl) L) → Q (.exit 28) ⟨frame x', []⟩ w') :
    Code.wp Yba.prog (.loop (loopAt Yba.f3 14)) Q ⟨frame x, []⟩ w := by
  refine wp_loop (fun a w' => ∃ (x' : Nat → Value), a = ⟨frame x', []⟩ ∧ ∃ (j : Nat), Live [(0, x 0), (8, x 8), (9, x 9), (10, x 10), (11, x 11), (12, x 12), (13, x 13), (42, x 42), (52, x 52), (53, x 53), (55, x 55), (57, x 57), (58, x 58), (538, x 538), (539, x 539)] x' ∧ x' 59 = .int .i64 (j : Nat) ∧ 1 ≤ j ∧ (j ≤ m ∨ j = 1) ∧ w.grownBy w' (some xb) ∧ PRow w' xb (isort (ltd kf kl) (L.take j) ++ L.drop j)) (fun a _ => m - (intOf (a.tmps.getD 59 (.bool false))).toNat) ⟨x, rfl, 1, live_cons (rfl) (live_cons (rfl) (live_cons (rfl) (live_cons (rfl) (live_cons (rfl) (live_cons (rfl) (live_cons (rfl) (live_cons (rfl) (live_cons (rfl) (live_cons (rfl) (live_cons (rfl) (live_cons (rfl) (live_cons (rfl) (live_cons (rfl) (live_cons (rfl) (live_nil _))))))))))))))), h59, by omega, .inr rfl, World.grownBy.refl _ _, by rw [isort_take1]; exact hR⟩ ?_
  clear hR
  rintro a w' ⟨x', rfl, j, hl, o59, hj1, hj2, hg, hR⟩
  have e0 := hl.head
  have e8 := hl.tail.head
  have e9 := hl.tail.tail.head
  have e10 := hl.tail.tail.tail.head
  have e11 := hl.tail.tail.tail.tail.head
  have e12 := hl.tail.tail.tail.tail.tail.head
  have e13 := hl.tail.tail.tail.tail.tail.tail.head
  have e42 := hl.tail.tail.tail.tail.tail.tail.tail.head
  have e52 := hl.tail.tail.tail.tail.tail.tail.tail.tail.head
  have e53 := hl.tail.tail.tail.tail.tail.tail.tail.tail.tail.head
  have e55 := hl.tail.tail.tail.tail.tail.tail.tail.tail.tail.tail.head
  have e57 := hl.tail.tail.tail.tail.tail.tail.tail.tail.tail.tail.tail.head
  have e58 := (hl.tail.tail.tail.tail.tail.tail.tail.tail.tail.tail.tail.tail.head).trans h58
  have e538 := hl.tail.tail.tail.tail.tail.tail.tail.tail.tail.tail.tail.tail.tail.head
  have e539 := hl.tail.tail.tail.tail.tail.tail.tail.tail.tail.tail.tail.tail.tail.tail.head
  rw [frame_lit, e0, e8, e9, e10, e11, e12, e13, e42, e52, e53, e55, e57, e58, e538, e539, o59]
  clear e0 e8 e9 e10 e11 e12 e13 e42 e52 e53 e55 e57 e58 e538 e539 hl o59
  conv => arg 2; whnf
  have H58 : Hid (x 58 = .slice (some ⟨xb, 0, none⟩) m m) := h58
  clear h58
  by_cases hlt : j < m
  · have i1 : (j : Int) < (m : Int) := by omega
    obtain ⟨p, hp⟩ : ∃ p, p = L[j]'(by omega) := ⟨_, rfl⟩
    have hil : (isort (ltd kf kl) (L.take j)).length = j := by rw [isort_length, List.length_take]; omega
    have hdr : L.drop j = p :: L.drop (j + 1) := by rw [hp]; exact List.drop_eq_getElem_cons (by omega)
    have hR' : PRow w' xb (isort (ltd kf kl) (L.take j) ++ p :: [] ++ L.drop (j + 1)) := by
      have h1 := hR
      rw [hdr] at h1
      simpa using h1
    have cp : w'.cell? ⟨xb, j, none⟩ = some (ptr p) := by
      have h1 := hR'.cell j (by simp [hil])
      have e : (isort (ltd kf kl) (L.take j) ++ p :: [] ++ L.drop (j + 1))[j]'(by simp [hil]) = p := by
        simp [hil]
      rw [e] at h1
      exact h1
    have HTK : Hid (isort (ltd kf kl) (L.take (j + 1)) = (insRev (ltd kf kl) p (isort (ltd kf kl) (L.take j)).reverse).reverse) := by
      show _ = _
      rw [List.take_succ_eq_append_getElem (by omega), ← hp, isort_snoc]
    have hpL : p ∈ L := by rw [hp]; exact List.getElem_mem _
    have hKp := (hK p hpL).grown hg
    have hKP : ∀ d ∈ isort (ltd kf kl) (L.take j), KeyG w' xb d (kf d) (kl d) := fun d hd => (hK d (List.mem_of_mem_take ((isort_perm _ _).mem_iff.1 hd))).grown hg
    have hpl : (L.drop (j + 1)).length = m - (j + 1) := by rw [List.length_drop, hL]
    clear hp hdr hR
    obtain ⟨P0, hP0⟩ : ∃ P0, P0 = isort (ltd kf kl) (L.take j) := ⟨_, rfl⟩
    obtain ⟨post, hpost⟩ : ∃ post, post = L.drop (j + 1) := ⟨_, rfl⟩
    have Hpost : Hid (post = L.drop (j + 1)) := hpost
    rw [← hP0] at hil hR' HTK hKP
    rw [← hpost] at hR' hpl
    clear hP0 hpost
    go_wp2
    refine wp_frame rfl (fun x1 hx => ?_)
    refine loop16 x1 w' _ xb m p j kf kl P0 post (hx 58) (hx 60) (hx 61) hil (by omega) hmb hR' hKp hKP ?_
    rintro x2 w2 k P S z hl2 e61 hg2 hPk hPS hR2 hT
    have e0 : x2 0 = x 0 := (hl2.head).trans (hx 0)
    have e8 : x2 8 = x 8 := (hl2.tail.head).trans (hx 8)
    have e9 : x2 9 = x 9 := (hl2.tail.tail.head).trans (hx 9)
    have e10 : x2 10 = x 10 := (hl2.tail.tail.tail.head).trans (hx 10)
    have e11 : x2 11 = x 11 := (hl2.tail.tail.tail.tail.head).trans (hx 11)
    have e12 : x2 12 = x 12 := (hl2.tail.tail.tail.tail.tail.head).trans (hx 12)
    have e13 : x2 13 = x 13 := (hl2.tail.tail.tail.tail.tail.tail.head).trans (hx 13)
    have e42 : x2 42 = x 42 := (hl2.tail.tail.tail.tail.tail.tail.tail.head).trans (hx 42)
    have e52 : x2 52 = x 52 := (hl2.tail.tail.tail.tail.tail.tail.tail.tail.head).trans (hx 52)
    have e53 : x2 53 = x 53 := (hl2.tail.tail.tail.tail.tail.tail.tail.tail.tail.head).trans (hx 53)
    have e55 : x2 55 = x 55 := (hl2.tail.tail.tail.tail.tail.tail.tail.tail.tail.tail.head).trans (hx 55)
    have e57 : x2 57 = x 57 := (hl2.tail.tail.tail.tail.tail.tail.tail.tail.tail.tail.tail.head).trans (hx 57)
    have e58 : x2 58 = .slice (some ⟨xb, 0, none⟩) m m := (hl2.tail.tail.tail.tail.tail.tail.tail.tail.tail.tail.tail.tail.head).trans (hx 58)
    have e59 : x2 59 = .int .i64 (j : Nat) := (hl2.tail.tail.tail.tail.tail.tail.tail.tail.tail.tail.tail.tail.tail.head).trans (hx 59)
    have e60 : x2 60 = .pointer (some ⟨p, 0, none⟩) := (hl2.tail.tail.tail.tail.tail.tail.tail.tail.tail.tail.tail.tail.tail.tail.head).trans (hx 60)
    have e538 : x2 538 = x 538 := (hl2.tail.tail.tail.tail.tail.tail.tail.tail.tail.tail.tail.tail.tail.tail.tail.head).trans (hx 538)
    have e539 : x2 539 = x 539 := (hl2.tail.tail.tail.tail.tail.tail.tail.tail.tail.tail.tail.tail.tail.tail.tail.tail.head).trans (hx 539)
    rw [frame_lit, e0, e8, e9, e10, e11, e12, e13, e42, e52, e53, e55, e57, e58, e59, e60, e538, e539, e61]
    clear e0 e8 e9 e10 e11 e12 e13 e42 e52 e53 e55 e57 e58 e59 e60 e538 e539 e61 hl2 hx
    have hln : (P ++ z :: S ++ post).length = m := by simp; omega
    have hkm : k < m := by rw [← hln]; simp; omega
    obtain ⟨zv, cz⟩ : ∃ zv, w2.cell? ⟨xb, k, none⟩ = some zv := ⟨_, hR2.cell k (by omega)⟩
    have fz := hR2.frozen k
    have i2 : (k : Int) < (m : Int) := by omega
    have HR3 : Hid (PRow (w2.setCell ⟨xb, k, none⟩ (ptr p)) xb (isort (ltd kf kl) (L.take (j + 1)) ++ L.drop (j + 1))) := by
      have h1 := hR2.set k p (by omega)
      rw [← hPk, set_hole, hT, ← HTK.out, Hpost.out] at h1
      rw [← hPk]
      exact h1
    clear hR2 hT hPk hPS hR' cp hln
    go_wp2
    refine ⟨end_frame rfl (fun v hy => ⟨j + 1, live_cons (hy 0) (live_cons (hy 8) (live_cons (hy 9) (live_cons (hy 10) (live_cons (hy 11) (live_cons (hy 12) (live_cons (hy 13) (live_cons (hy 42) (live_cons (hy 52) (live_cons (hy 53) (live_cons (hy 55) (live_cons (hy 57) (live_cons ((hy 58).trans H58.out.symm) (live_cons (hy 538) (live_cons (hy 539) (live_nil _))))))))))))))), hy 59, by omega, .inl (by omega), (hg.trans hg2).trans (grown_setCell _ _ _ _), HR3.out⟩), ?_⟩
    show m - (intOf (.int .i64 ((j : Int) + 1))).toNat < m - (intOf (.int .i64 (j : Int))).toNat
    simp [intOf]; omega
  · have hd : decide ((j : Int) < (m : Int)) = false := by simp; omega
    have hd2 : decide (j < m) = false := by simp; omega
    have HR3 : Hid (PRow w' xb (isort (ltd kf kl) L)) := by
      have h1 := hR
      rw [List.take_of_length_le (by omega), List.drop_of_length_le (by omega), List.append_nil] at h1
      exact h1
    go_wp2
    refine at_frame (Q := fun a w => Q _ a w) rfl (fun v hy => ?_)
    exact hexit v _ (live_cons (hy 0) (live_cons (hy 8) (live_cons (hy 9) (live_cons (hy 10) (live_cons (hy 11) (live_cons (hy 12) (live_cons (hy 13) (live_cons (hy 42) (live_cons (hy 52) (live_cons (hy 53) (live_cons (hy 55) (live_cons (hy 57) (live_cons ((hy 58).trans H58.out.symm) (live_cons (hy 538) (live_cons (hy 539) (live_nil _)))))))))))))))) hg HR3.out
end Go.Proofs.Ybulkeidm
