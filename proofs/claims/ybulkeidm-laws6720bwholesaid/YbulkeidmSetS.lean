/-
  (*seers).settle at a read that is not dense: its pairs are sorted by replica (slices.SortFunc by the shelf's contract at structs).
-/
import Derived.Test.YbulkeidmSetD
import Derived.Test.YbulkeidmSort
import Derived.Test.YbulkeidmShelf
namespace Go.Proofs.Ybulkeidm
open Go.RowKit

/-- A pair's two cells. -/
def encP (x : Int × Int) : List Value := [.int .i64 x.1, .int .i64 x.2]

set_option maxHeartbeats 1000000 in
theorem pairCmp_grow (x y : Int × Int) (W : World) : Calls Yba.prog 12 #[.agg #[.int .i64 x.1, .int .i64 x.2], .agg #[.int .i64 y.1, .int .i64 y.2]] W fun e w' => e = .returned (.int .i64 (cmpi x.1 y.1)) ∧ ∃ q os', w' = Go.Sort.grow (W.drewN q) os' := by
  obtain ⟨x1, x2⟩ := x
  obtain ⟨y1, y2⟩ := y
  go_enter Yba.func12, Yba.ntmps12
  go_wp2_with (go_at_call 13; refine (compare_any _ _ _).mono ?_; rintro e w' ⟨rfl, rfl⟩)
  go_ret
  exact ⟨rfl, 0, _, by rw [Go.Sort.alloc_eq_grow, Go.Sort.alloc_eq_grow, Go.Sort.grow_grow]; rfl⟩

theorem pairLays (blk off size : Nat) (w : World) : CmpLays Yba.prog 12 #[] encP 2 (fun x y => cmpi x.1 y.1) blk off size w :=
  fun _ _ _ _ x y => pairCmp_grow x y _

theorem pairLt : ∀ x y : Int × Int, (ltOf (fun (x y : Int × Int) => cmpi x.1 y.1) x y) = decide (x.1 < y.1) := by
    intro x y
    show decide (cmpi x.1 y.1 < 0) = decide (x.1 < y.1)
    unfold cmpi
    split
    · simp; assumption
    · split <;> simp <;> omega
theorem pairSwo : Go.Sort.SWO (ltOf fun (x y : Int × Int) => cmpi x.1 y.1) := by
  have h := pairLt
  constructor
  · intro x; rw [h]; simp
  · intro x y z; rw [h, h, h]; simp; omega
  · intro x y z; rw [h, h, h]; simp; omega

set_option maxHeartbeats 1000000 in
theorem sortP_any (blk cap : Nat) (v : List (Int × Int)) (w : World) (hH : Go.Sort.HoldsK encP 2 w blk 0 v.toArray) (hblk : blk < w.heap.size) (h12 : v.length ≤ 12) :
    Calls Yba.prog 11 #[.slice (some ⟨blk, 0, none⟩) v.length cap, .func (.func 12) #[] #[]] w fun e w' => e = .returned (.tuple #[]) ∧ ∃ d : List (Int × Int), d.Perm v ∧ d.Pairwise (fun x y => x.1 ≤ y.1) ∧ w.grownBy w' (some blk) ∧ blk < w'.heap.size ∧ Go.Sort.HoldsK encP 2 w' blk 0 d.toArray := by
  have eg : ∀ args w, (callFunc 12 args).run Yba.prog w = .ok (.enter 12 args) w := enters_of Yba.func12 (by kernel_rfl) rfl
  have hl : ∀ (n : Nat) (W : World), n ≤ 12 → Calls Yba.prog 17 #[.int .u64 n] W fun e w' => (∃ l : Int, e = .returned (.int .i64 l)) ∧ w' = W := fun n W h => (len_any n W h).mono fun _ _ ⟨⟨r, he⟩, hw⟩ => ⟨⟨r, he⟩, hw.symm⟩
  have hcon := AnyQ.slices_SortFunc_small_sorted sortPr 2 Yba.isAgg62 Yba.sizeOf62 encP (fun _ => rfl) (fun x v hv => by simp [encP] at hv; rcases hv with rfl | rfl <;> rfl) (fun x y => cmpi x.1 y.1) 12 #[] pairSwo blk 0 cap v.toArray w eg (pairLays blk 0 _ w) hH hblk (by simpa using h12) hl
  have hcon' : Calls Yba.prog 11 #[.slice (some ⟨blk, 0, none⟩) v.length cap, .func (.func 12) #[] #[]] w _ := hcon
  refine hcon'.mono ?_
  rintro e w' ⟨he, d', n, os, hP, hS, rfl⟩
  have hsz : d'.size = v.length := by simpa using hP.1
  refine ⟨he, d'.toList, ?_, ?_, ?_, ?_, ?_⟩
  · have := hP.2.2
    rw [show v.toArray.size = d'.size from by simp [hsz], Array.extract_size] at this
    rw [hsz, show v.length = v.toArray.size from by simp, Array.extract_size] at this
    simpa using this
  · rw [List.pairwise_iff_getElem]
    intro i j hi hj hij
    have h1 := hS i j (Nat.zero_le _) hij (by simp at hj ⊢; omega)
    have e1 : d'[j]! = d'.toList[j] := by simp at hj; rw [getElem!_pos d' j (by omega)]; simp
    have e2 : d'[i]! = d'.toList[i] := by simp at hi; rw [getElem!_pos d' i (by omega)]; simp
    rw [e1, e2, pairLt] at h1
    simpa using h1
  · refine ⟨rfl, rfl, rfl, ?_, ?_⟩
    · simp [sortWorldK, Go.Sort.grow, Go.Sort.putRowK, Go.Sort.putRow, Go.Sort.mapBlock, Go.Sort.ahead]
    · intro k hk hne
      simp only [sortWorldK, Go.Sort.grow, Go.Sort.putRowK, Go.Sort.putRow, Go.Sort.mapBlock, Go.Sort.ahead]
      rw [Array.getElem?_append_left (by simpa using hk), Array.getElem?_modify, if_neg (fun e => hne (by rw [e]))]
  · simp [sortWorldK, Go.Sort.grow, Go.Sort.putRowK, Go.Sort.putRow, Go.Sort.mapBlock, Go.Sort.ahead]; omega
  · have h1 := Go.Sort.holdsK_putRowK encP 2 (Go.Sort.ahead w n) blk 0 v.toArray d' hH (by simpa using hsz)
    have h2 := Go.Sort.holdsK_grow encP 2 _ os blk 0 d' (by simpa [Go.Sort.putRowK, Go.Sort.ahead] using hblk) h1
    rw [Array.toArray_toList]; exact h2

/-! ### The plain law: sorted by replica is bucket by bucket -/
theorem pw_mono {α : Type} {R T : α → α → Prop} (h : ∀ a b, R a b → T a b) : ∀ (l : List α), l.Pairwise R → l.Pairwise T
  | [], _ => List.Pairwise.nil
  | a :: l, hl => by
    rw [List.pairwise_cons] at hl ⊢
    exact ⟨fun b hb => h a b (hl.1 b hb), pw_mono h l hl.2⟩

def stFst (v : List (Int × Int)) : List (Int × Int) := (List.range 8).flatMap fun q => v.filter fun p => p.1 == (q : Nat)
/-- Each replica but once, and in 0 .. 7. -/
structure Reps (v : List (Int × Int)) : Prop where
  once : v.Pairwise fun x y => x.1 ≠ y.1
  lo : ∀ x ∈ v, 0 ≤ x.1
  hi : ∀ x ∈ v, x.1 < 8

theorem Reps.perm {v d : List (Int × Int)} (h : Reps v) (hp : d.Perm v) : Reps d :=
  ⟨(hp.pairwise_iff (fun {_ _} h => Ne.symm h)).2 h.once, fun x hx => h.lo x (hp.mem_iff.1 hx), fun x hx => h.hi x (hp.mem_iff.1 hx)⟩

theorem Reps.nodup {v : List (Int × Int)} (h : Reps v) : v.Nodup := pw_mono (fun _ _ hne e => hne (by rw [e])) v h.once

theorem stFst_sorted {v : List (Int × Int)} (h : Reps v) : (stFst v).Pairwise fun x y => x.1 < y.1 := by
  unfold stFst
  rw [List.pairwise_flatMap]
  constructor
  · intro q _
    rw [List.pairwise_filter]
    exact pw_mono (fun x y hne hx hy => by simp at hx hy; omega) v h.once
  · exact pw_mono (fun a b hab x hx y hy => by
      simp at hx hy
      omega) _ List.pairwise_lt_range

theorem stFst_mem {v : List (Int × Int)} (h : Reps v) (x : Int × Int) : x ∈ stFst v ↔ x ∈ v := by
  unfold stFst
  simp only [List.mem_flatMap, List.mem_range, List.mem_filter, beq_iff_eq]
  constructor
  · rintro ⟨q, _, hx, _⟩; exact hx
  · intro hx
    have h1 := h.lo x hx
    have h2 := h.hi x hx
    exact ⟨x.1.toNat, by omega, hx, by omega⟩

theorem stFst_perm {v : List (Int × Int)} (h : Reps v) : (stFst v).Perm v :=
  (List.perm_ext_iff_of_nodup (pw_mono (fun _ _ hlt e => by rw [e] at hlt; omega) _ (stFst_sorted h)) h.nodup).2 (stFst_mem h)

theorem sorted_stFst {v d : List (Int × Int)} (h : Reps v) (hp : d.Perm v) (hs : d.Pairwise fun x y => x.1 ≤ y.1) : d = stFst v := by
  have h1 : d.Pairwise fun x y => x.1 < y.1 := by
    have := hs.and (h.perm hp).once
    exact pw_mono (fun _ _ ⟨a, b⟩ => by omega) _ this
  refine (hp.trans (stFst_perm h).symm).eq_of_pairwise ?_ h1 (stFst_sorted h)
  intro a b _ _ hab hba
  omega

theorem stFst_idem {v : List (Int × Int)} (h : Reps v) : stFst (stFst v) = stFst v :=
  (sorted_stFst (h.perm (stFst_perm h)) (List.Perm.refl _) (pw_mono (fun _ _ h => by omega) _ (stFst_sorted h))).symm

theorem inc_len : ∀ (l : List (Int × Int)) (lo : Int), lo ≤ 8 → l.Pairwise (fun x y => x.1 < y.1) → (∀ x ∈ l, lo ≤ x.1) → (∀ x ∈ l, x.1 < 8) → (l.length : Int) ≤ 8 - lo
  | [], lo, h, _, _, _ => by simp; omega
  | x :: l, lo, h, hp, h1, h2 => by
    have h3 := h1 x (by simp)
    have h4 := h2 x (by simp)
    have := inc_len l (x.1 + 1) (by omega) (List.pairwise_cons.1 hp).2 (fun y hy => by have := (List.pairwise_cons.1 hp).1 y hy; omega) (fun y hy => h2 y (by simp [hy]))
    simp; omega
theorem Reps.len {v : List (Int × Int)} (h : Reps v) : v.length ≤ 8 := by
  have h1 := h.perm (stFst_perm h)
  have h2 := inc_len (stFst v) 0 (by omega) (stFst_sorted h) h1.lo h1.hi
  rw [(stFst_perm h).length_eq] at h2
  omega

set_option maxHeartbeats 1000000 in
set_option maxRecDepth 100000 in
theorem settle_sparse (d pu fb n cu cap : Nat) (v : List (Int × Int)) (w : World) (hR : Reps v)
    (hF : Go.Sort.HoldsK encP 2 w fb 0 v.toArray) (hb : fb < w.heap.size) (c2 : w.cell? ⟨d, 2, none⟩ = some (.slice none 0 0)) (c3 : w.cell? ⟨d, 3, none⟩ = some (.slice (some ⟨fb, 0, none⟩) v.length cap)) :
    Calls Yba.prog 7 #[.pointer (some ⟨d, 2, none⟩), .slice (some ⟨pu, 0, none⟩) n cu] w fun e w' => e = .returned (.tuple #[]) ∧ w.grownBy w' (some fb) ∧ fb < w'.heap.size ∧ Go.Sort.HoldsK encP 2 w' fb 0 (stFst v).toArray := by
  have HS := sortP_any fb cap v w hF hb (by have := hR.len; omega)
  obtain ⟨m, hm⟩ : ∃ m, m = v.length := ⟨_, rfl⟩
  rw [← hm] at HS c3
  clear hm hF
  go_enter Yba.func7, Yba.ntmps7
  go_wp2
  go_loopw [11] (fun iv wi => iv = .int .i64 0 ∧ w = wi) (fun _ _ => 0)
  case atStart => exact ⟨rfl, rfl⟩
  case round =>
    obtain ⟨rfl, rfl⟩ := hrel
    go_wp2_with fail
    refine HS.mono ?_
    clear HS
    rintro e w1 ⟨rfl, dd, hp, hs, hg, h1, h2⟩
    rw [sorted_stFst hR hp hs] at h2
    go_wp2
    go_end0
    exact ⟨rfl, hg, h1, h2⟩

set_option maxHeartbeats 1000000 in
set_option maxRecDepth 100000 in
theorem settle_empty (d pu n cu : Nat) (w : World) (c2 : w.cell? ⟨d, 2, none⟩ = some (.slice none 0 0)) (c3 : w.cell? ⟨d, 3, none⟩ = some (.slice none 0 0)) :
    Calls Yba.prog 7 #[.pointer (some ⟨d, 2, none⟩), .slice (some ⟨pu, 0, none⟩) n cu] w fun e w' => e = .returned (.tuple #[]) ∧ w = w' := by
  have HS := sortP_none none 0 (.func (.func 12) #[] #[]) w
  go_enter Yba.func7, Yba.ntmps7
  go_wp2
  go_loopw [11] (fun iv wi => iv = .int .i64 0 ∧ w = wi) (fun _ _ => 0)
  case atStart => exact ⟨rfl, rfl⟩
  case round =>
    obtain ⟨rfl, rfl⟩ := hrel
    go_wp2_with fail
    refine HS.mono ?_
    clear HS
    rintro e w1 ⟨rfl, rfl⟩
    go_wp2
    go_end0
    exact ⟨rfl, rfl⟩
end Go.Proofs.Ybulkeidm
