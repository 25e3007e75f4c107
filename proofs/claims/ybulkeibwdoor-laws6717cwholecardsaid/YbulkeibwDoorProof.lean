/-
  THE ROW of LawS6717CWhole (its one listed variable opened as a table of bytes), AND ITS TIED CARD.
-/
import Derived.Test.YbulkeibwDoorLaw
import Derived.Test.YbulkeibwDoorTie
import Derived.Test.YbulkeibwDoorCards
import Derived.ProofKit
import Derived.LaidMore
import Derived.OpenShut
import Derived.ShutString
import Derived.WalkSmall
import Derived.Lib.LaidTab
import Derived.Stop.Joined
import Derived.SevenTiedAt
namespace Go.Proofs.YbulkeibwDoor
open Go.ChangeShapes Go.WideShapes Go.ChangeAt Go.RowKit
open Go.ChangeMaps (open_string shut_string)

theorem own : ownKnob Ybad.prog.godebug = none := by kernel_rfl
theorem laidOut : laidOutB Ybad.prog = true := by kernel_rfl

/-- The listed variable's name. -/
def cE : String := Rows.lawS6717CWholeSpec.vars.headD ""
theorem gE : Ybad.prog.globalNamed cE = some 0 := by kernel_rfl
theorem tE : (Ybad.prog.globals[0]?).map (·.type) = some 26 := by kernel_rfl
theorem c5 : Ybad.prog.cellsOf 5 = 1 := by kernel_rfl
theorem c26 : Ybad.prog.cellsOf 26 = 256 := by kernel_rfl

/-- What the table holds. -/
def escTab : List Int := (List.range 256).map fun i => ((tabv i : Nat) : Int)
theorem laid_eq : Rows.lawS6717CWholeRow.laid = [(cE, Lib.tabData .u8 escTab)] := by kernel_rfl

/-- Its cells. -/
def cells256 : Array Value := (escTab.map fun z => Value.int .u8 z).toArray
theorem reads_table {H : Type} (enc : TypeId × Value → H) (W : World) (sp : Nat → Bool) : DataW.trod enc Ybad.prog W 0 sp true 3 26 cells256.toList = some (Lib.tabData .u8 escTab, []) := by kernel_rfl

/-- The door's own heap meets the condition: three closed facts. -/
theorem door_met (os : Os) (args : Array Value) : laidMetH Ybad.prog Rows.lawS6717CWholeRow.laid ((World.doorLaid Ybad.prog 14 os).forCall (fun _ _ => 0) ⟨#[], args, []⟩).memory :=
  laidMetH_of_parts3 (fuel := 8) (laidMet_of_run' 8 (by kernel_rfl) (by kernel_rfl)) (by kernel_rfl) (by kernel_rfl)

theorem tab_of_laid {W : World} (h : laidMetH Ybad.prog Rows.lawS6717CWholeRow.laid W) : Lib.TabIs Ybad.prog W cE .u8 escTab := by
  rw [MakeChecks.laidMetH_plain _ _ _ (by kernel_rfl), laid_eq] at h
  exact Lib.tabIs_of_head gE tE Ybad.underlying26 Ybad.underlying5 c5 c26 h

theorem escTab_at (i : Nat) (h : i < 256) : escTab.getD i 0 = ((tabv i : Nat) : Int) := by
  simp [escTab, List.getD, h]

set_option maxRecDepth 100000 in
theorem lifted (os : Os) (started : os.Started) (H : Type) (enc : TypeId × Value → H) :
    ReturnsInHanded {} Ybad.checked os 3 .any (fun w args => (Rows.lawS6717CWholeSpec.pre enc Ybad.prog Ybad.f3 [] false w args ∧ laidMetH Ybad.prog Rows.lawS6717CWholeRow.laid w) ∧ sizedMet enc Ybad.prog Ybad.f3 (OpenSpec.ofChange Rows.lawS6717CWholeSpec) false w args)
      (Rows.lawS6717CWholeSpec.post enc Ybad.prog Ybad.f3 false true false false) := by
  refine returnsInHanded_of_change_and (C := Ybad.checked) (X := fun w _ => laidMetH Ybad.prog Rows.lawS6717CWholeRow.laid w) (fun _ _ _ hh h => h.of_heap hh) own started (by kernel_rfl) Ybad.func3
    (ChangeSpec.witness_shaped (enc := enc) (C := Ybad.checked) (os := os) (X := fun w _ => laidMetH Ybad.prog Rows.lawS6717CWholeRow.laid w) false (World.doorLaid Ybad.prog 14 os) #[.string ByteArray.empty] 8 rfl (World.shaped_of_RefB (by kernel_rfl) (by kernel_rfl)) (by kernel_rfl) (by kernel_rfl) (by kernel_rfl) (door_met os _)) ?_
  intro W base args ds gs before hval0 hW _ _ hL _
  have hval : ∀ (j : Nat) t v, Ybad.f3.params[j]? = some t → args[j]? = some v → Value.okWide Ybad.prog W .any base t v := hval0
  have hW' := hW
  obtain ⟨p, q, hA0, hV0, rfl, hfz, hnd⟩ := hW
  have hA : DataW.TrodAll enc Ybad.prog W 0 (fun _ => true) true Ybad.f3.params.toList args.toList ds p := hA0
  have hV : DataW.TrodVars enc Ybad.prog W (fun _ => true) [cE] gs q := hV0
  rw [Ybad.params3] at hA hval
  obtain ⟨v0, d0, rfl, rfl, h0⟩ := trodAll_one hA
  obtain ⟨s, rfl, rfl, rfl, hs⟩ := open_string Ybad.underlying9 (hval 0 9 v0 rfl rfl) h0
  obtain ⟨g, t, cs, fuel, d, p', rfl, hg, ht, hvar, hd, rfl⟩ := trodVars_one hV
  obtain rfl := Option.some.inj (gE.symm.trans hg)
  obtain rfl := Option.some.inj (tE.symm.trans ht)
  have hT := tab_of_laid hL
  obtain rfl : cs = cells256 := Option.some.inj (hvar.symm.trans hT)
  obtain ⟨rfl, rfl⟩ := DataW.Trod.unique (v := .agg cells256) ⟨fuel, hd⟩ ⟨3, reads_table enc W _⟩
  clear hA0 hV0 hval0
  have hcell : ∀ i, i < 256 → W.cell? ⟨0, i, none⟩ = some (.int .u8 (tabv i : Nat)) := by
    intro i hi
    rw [← escTab_at i hi]
    exact hT.cell gE i (by simp [escTab]; exact hi)
  have hB : 0 < W.heap.size := by
    have := hcell 0 (by decide)
    rcases Nat.eq_zero_or_pos W.heap.size with h | h
    · have he : W.heap[0]? = none := Array.getElem?_eq_none (by omega)
      simp [World.cell?, he] at this
    · exact h
  refine (law_any s W hs hcell hB).mono fun e W' ⟨he, bel⟩ => ?_
  subst he
  have hvars : ∀ sp : Nat → Bool, DataW.TrodVars enc Ybad.prog W' sp [cE] [Lib.tabData .u8 escTab] (MemPlace.row ⟨0, 0, none⟩ cells256.size ++ [] ++ []) := fun sp =>
    ⟨0, 26, cells256, 3, [], [], hg, ht, var?_below bel hg hB hvar, reads_table enc W' sp, rfl, rfl⟩
  exact ⟨_, rfl, _, _, _, [], [], MemPlace.row ⟨0, 0, none⟩ cells256.size ++ [] ++ [], hW', trodAll_mk1 (shut_bool Ybad.underlying4 _), trodAll_mk1 (shut_string Ybad.underlying9 hs), hvars _, bel.frame _, fun h => by cases h⟩

theorem row_holds : Rows.LawS6717CWholeSaid :=
  OpenClaim.holds_of_wide 3 Ybad.f3 rfl rfl rfl rfl rfl rfl rfl ⟨rfl, rfl, rfl, rfl, rfl⟩ rfl rfl rfl rfl rfl (by kernel_rfl) Ybad.func3 (by kernel_rfl)
    (of_decide_eq_true (by kernel_rfl)) (by unfold Func.isWrapper; first | (rw [if_pos (by decide +kernel)]; kernel_rfl) | (rw [if_neg (by decide +kernel)]; exact ⟨rfl, rfl⟩))
    (fun os started H enc _ => lifted os started H enc)

theorem card_holds : Rows.LawS6717CWholeCardSaid :=
  Claim7.holds_tied_plain_at .later [] [.data] true (true, "278319972f82e0f30a8de35a6a7cf74c9b789dedb2e48cd460ad49226f7d86c9") false
    row_holds (fun _ h => by cases h) (by kernel_rfl) (fun _ h => by cases h) lawS6717CWhole_row_tie rfl ⟨rfl, rfl⟩ (by kernel_rfl) rfl
    (fun f fn hf hfn => by
      obtain rfl : f = 3 := Option.some.inj ((show Ybad.prog.funcNamed Rows.lawS6717CWholeRow.func = some 3 by kernel_rfl).symm.trans hf) |>.symm
      obtain rfl : fn = Ybad.f3 := (Option.some.inj (Ybad.func3.symm.trans hfn)).symm
      exact ⟨by kernel_rfl, fun j t ht => by
        rw [Ybad.params3] at ht
        have hm : t ∈ [9] := by simpa using Array.mem_of_getElem? ht
        have hall : ([9].all fun u => !Ybad.prog.wantsStandIn u) = true := by kernel_rfl
        exact (show Ybad.prog.wantsStandIn t = false by simpa using List.all_eq_true.1 hall t hm)⟩)
    (by kernel_rfl)
end Go.Proofs.YbulkeibwDoor
