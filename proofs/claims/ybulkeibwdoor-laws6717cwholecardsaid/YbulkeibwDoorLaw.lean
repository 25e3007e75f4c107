/-
  THE WALK of LawS6717CWhole out of its callees' contracts.
-/
import Derived.Test.YbulkeibwDoorModel
namespace Go.Proofs.YbulkeibwDoor
open Go.RowKit

theorem hide {p : Prop} (h : p) : Hid p := h
theorem unhide {p : Prop} (h : Hid p) : p := h

set_option maxHeartbeats 400000 in
theorem law_any (s : ByteArray) (w : World) (hs : s.size ≤ maxLen)
    (htab : ∀ i, i < 256 → w.cell? ⟨0, i, none⟩ = some (.int .u8 (tabv i : Nat))) (hB : 0 < w.heap.size) :
    Calls Ybad.prog 3 #[.string s] w fun e w' => e = .returned (.bool true) ∧ Below w.heap.size w w' := by
  unfold maxLen at hs
  by_cases hbig : 1048576 < s.size
  · clear htab
    go_enter Ybad.func3, Ybad.ntmps3
    go_wp2
    go_ret
    exact ⟨rfl, Below.refl _ _⟩
  · have hs' : s.size ≤ 1048576 := by omega
    by_cases hex : ∃ j, ∃ h : j < s.size, ndq (s[j]'h).toNat = true
    · obtain ⟨j, hj, hq⟩ := hex
      have HH := hide (header_yes s w hs' j hj hq htab hB)
      have HM := fun w1 => hide (model_yes s w1 hs' j hj hq)
      clear htab hq
      obtain ⟨r, hr⟩ : ∃ r : ByteArray, r = ⟨((quoted (nats s)).map UInt8.ofNat).toArray⟩ := ⟨_, rfl⟩
      rw [← hr] at HH
      have HM' : ∀ w1, Hid (Calls Ybad.prog 5 #[.string s] w1 fun e w' => e = .returned (.string r) ∧ Below w1.heap.size w1 w') := by
        intro w1; have := HM w1; rw [← hr] at this; exact this
      clear HM hr
      go_enter Ybad.func3, Ybad.ntmps3
      go_wp2_with fail
      refine (unhide HH).mono ?_
      rintro e w1 ⟨rfl, hb1⟩
      go_wp2_with fail
      refine (unhide (HM' w1)).mono ?_
      rintro e w2 ⟨rfl, hb2⟩
      go_wp2
      go_ret
      exact ⟨by simp, hb1.trans (hb2.mono hb1.size)⟩
    · have hno : ∀ j (h : j < s.size), ndq (s[j]'h).toNat = false := by
        intro j h
        rcases Bool.eq_false_or_eq_true (ndq (s[j]'h).toNat) with hq | hq
        · exact absurd ⟨j, h, hq⟩ hex
        · exact hq
      have HH := hide (header_no s w hs' hno)
      have HM := hide (model_no s w hs' hno)
      clear htab hex hno
      go_enter Ybad.func3, Ybad.ntmps3
      go_wp2_with fail
      refine (unhide HH).mono ?_
      rintro e w1 ⟨rfl, rfl⟩
      go_wp2_with fail
      refine (unhide HM).mono ?_
      rintro e w2 ⟨rfl, rfl⟩
      go_wp2
      go_ret
      exact ⟨by simp, Below.refl _ _⟩
end Go.Proofs.YbulkeibwDoor
