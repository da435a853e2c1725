/-
  THE ROW AND THE TIED CARD of LawS3571CRange. After the guide's Derived/Test/MapyProofs, MapyCard (the witness in the heap that the door's own run leaves) and Sent6Proofs (the sentinel opened).
-/
import Derived.Test.YbulkbuxwDoorRemWalk
import Derived.Test.YbulkbuxwDoorTie
import Derived.Test.YbulkbuxwDoorCards
import Derived.ProofKit
import Derived.LaidMore
import Derived.OpenShut
import Derived.Stop.Joined
import Derived.Stop.LaidErr
import Derived.SevenTiedAt
namespace Go.Proofs.YbulkbuxwDoor.lawS3571CRange
open Go Go.ChangeShapes Go.WideShapes Go.ChangeAt Go.RowKit

/-- The listed variable's name, off the given row; the name of its dynamic type, off the given datum. -/
abbrev vName : String := Rows.lawS3571CRangeSpec.vars.headD ""
abbrev laidL : List (String × DataW Unit) := Rows.lawS3571CRangeRow.laid
def errName : String := match (Rows.laid_knotwork_example_knotwork_errDivisionByZero : DataW Unit) with | .iface n _ => n | _ => ""
theorem own : ownKnob Ybad.prog.godebug = none := by kernel_rfl
theorem gErr : Ybad.prog.globalNamed vName = some 0 := by kernel_rfl
theorem tErr : (Ybad.prog.globals[0]?).map (·.type) = some 62 := by kernel_rfl
theorem row112 (u : TypeId) (h : Ybad.prog.typeName? 3 u = some errName) : u = 112 :=
  typeName_ptr_named (nm := "errors.errorString") (by kernel_rfl) (by kernel_rfl) (by decide) u (h.trans (congrArg some (by kernel_rfl)))
theorem cells138 : Ybad.prog.cellsOf 138 = 1 := by kernel_rfl
theorem cells9 : Ybad.prog.cellsOf 9 = 1 := by kernel_rfl

/-- The door's own heap meets the condition. -/
theorem door_met (os : Os) (args : Array Value) : laidMetH Ybad.prog laidL ((World.doorLaid Ybad.prog 400 os).forCall (fun _ _ => 0) ⟨#[], args, []⟩).memory :=
  laidMetH_of_parts3 (fuel := 8) (laidMet_of_run' 8 (by kernel_rfl) (by kernel_rfl)) (by kernel_rfl) (by kernel_rfl)

/-- What the condition gives the walks: the variable holds a pointer to an errorString. -/
theorem of_laid {W : World} (h : laidMetH Ybad.prog laidL W) : ∃ p, W.var? Ybad.prog vName = some #[.iface 112 (.pointer (some p))] := by
  rw [MakeChecks.laidMetH_plain _ _ _ (by kernel_rfl)] at h
  obtain ⟨a, s, hv, _⟩ := laid_sentinel h gErr tErr Ybad.underlying62 row112 Ybad.underlying112 Ybad.underlying138 rfl rfl Ybad.underlying9 cells138 cells9
  exact ⟨a, hv⟩

set_option maxRecDepth 100000 in
theorem lifted (os : Os) (started : os.Started) (H : Type) (enc : TypeId × Value → H) :
    ReturnsInHanded {} Ybad.checked os 7 .any (fun w args => (Rows.lawS3571CRangeSpec.pre enc Ybad.prog Ybad.f7 [] false w args ∧ laidMetH Ybad.prog laidL w) ∧ sizedMet enc Ybad.prog Ybad.f7 (OpenSpec.ofChange Rows.lawS3571CRangeSpec) false w args)
      (Rows.lawS3571CRangeSpec.post enc Ybad.prog Ybad.f7 false true false false) := by
  refine returnsInHanded_of_change_and (C := Ybad.checked) (X := fun w _ => laidMetH Ybad.prog laidL w) (fun _ _ _ hh h => h.of_heap hh) own started (by kernel_rfl) Ybad.func7
    (ChangeSpec.witness_shaped (enc := enc) (C := Ybad.checked) (os := os) (X := fun w _ => laidMetH Ybad.prog laidL w) false (World.doorLaid Ybad.prog 400 os) #[.int .i64 0, .int .i64 0] 8 rfl (World.shaped_of_RefB (by kernel_rfl) (by kernel_rfl)) (by kernel_rfl) (by kernel_rfl) (by kernel_rfl) (door_met os _)) ?_
  intro W base args ds gs before hval0 hW _ _ hL _
  have hval : ∀ (j : Nat) t v, Ybad.f7.params[j]? = some t → args[j]? = some v → Value.okWide Ybad.prog W .any base t v := hval0
  have hW' := hW
  obtain ⟨p, q, hA0, hV0, rfl, hfz, hnd⟩ := hW
  have hA : DataW.TrodAll enc Ybad.prog W 0 (fun _ => true) true Ybad.f7.params.toList args.toList ds p := hA0
  have hV : DataW.TrodVars enc Ybad.prog W (fun _ => true) [vName] gs q := hV0
  rw [Ybad.params7] at hA hval
  obtain ⟨v0, v1, d0, d1, p0, p1, rfl, rfl, rfl, h0, h1⟩ := trodAll_two hA
  obtain ⟨a, rfl, rfl, rfl, wa⟩ := open_int Ybad.underlying2 (hval 0 2 v0 rfl rfl) h0
  obtain ⟨b, rfl, rfl, rfl, wb⟩ := open_int Ybad.underlying2 (hval 1 2 v1 rfl rfl) h1
  obtain ⟨x, hv⟩ := of_laid hL
  obtain ⟨rfl, rfl⟩ := hV.unique (vars_read1 enc gErr tErr Ybad.underlying62 hv trivial _)
  clear hA0 hV0 hval0
  have hg : W.cell? ⟨0, 0, none⟩ = some (.iface 112 (.pointer (some x))) := by simpa using World.var?_cell gErr hv 0
  have fin : Rows.lawS3571CRangeSpec.post enc Ybad.prog Ybad.f7 false true false false W #[.int .i64 a, .int .i64 b] (.bool true) W :=
    post_of_same (pa := []) (pv := [.cell 0 0]) hW' (fun _ _ _ => trodAll_mk1 (shut_bool Ybad.underlying4 _)) (fun sp _ => trodAll_mk2 (shut_int Ybad.underlying2 wa) (shut_int Ybad.underlying2 wb)) (fun sp _ => vars_read1 enc gErr tErr Ybad.underlying62 hv trivial sp) rfl (World.keptBut_refl _ _) (fun _ => rfl) (ok_one (by kernel_rfl) rfl (okWide_bool_mk Ybad.underlying4 _))
  obtain ⟨a0, a1⟩ := bounds_i64 wa
  obtain ⟨b0, b1⟩ := bounds_i64 wb
  by_cases hb : b = 0
  · subst hb
    refine (range_zero a W).mono fun e W' ⟨he, hw⟩ => ?_
    subst he; subst hw
    exact ⟨_, rfl, fin⟩
  · refine (range_other a b W hb b0 b1).mono fun e W' ⟨he, hw⟩ => ?_
    subst he; subst hw
    exact ⟨_, rfl, fin⟩

theorem row_holds : Rows.LawS3571CRangeSaid :=
  OpenClaim.holds_of_wide 7 Ybad.f7 rfl rfl rfl rfl rfl rfl rfl ⟨rfl, rfl, rfl, rfl, rfl⟩ rfl rfl rfl rfl rfl (by kernel_rfl) Ybad.func7 (by kernel_rfl)
    (of_decide_eq_true (by kernel_rfl)) (by unfold Func.isWrapper; first | (rw [if_pos (by decide +kernel)]; kernel_rfl) | (rw [if_neg (by decide +kernel)]; exact ⟨rfl, rfl⟩))
    (fun os started H enc _ => lifted os started H enc)

/-- THE TIED CARD -/
theorem proved : Rows.LawS3571CRangeCardSaid :=
  Claim7.holds_tied_plain_at .later [] [.called] true (true, "353e2b3ec8ecd7293db9f4600c590d0554436afb14c97bd23ca74cb4775ed0d5") true
    row_holds (fun _ h => by cases h) (by kernel_rfl) (fun _ h => by cases h) lawS3571CRange_row_tie rfl ⟨rfl, rfl⟩ (by kernel_rfl) rfl
    (fun f fn hf hfn => by
      obtain rfl : f = 7 := Option.some.inj ((show Ybad.prog.funcNamed Rows.lawS3571CRangeRow.func = some 7 by kernel_rfl).symm.trans hf) |>.symm
      obtain rfl : fn = Ybad.f7 := (Option.some.inj (Ybad.func7.symm.trans hfn)).symm
      exact ⟨by kernel_rfl, fun j t ht => by
        rw [Ybad.params7] at ht
        have hm : t ∈ [2, 2] := by simpa using Array.mem_of_getElem? ht
        have hall : ([2, 2].all fun u => !Ybad.prog.wantsStandIn u) = true := by kernel_rfl
        exact (show Ybad.prog.wantsStandIn t = false by simpa using List.all_eq_true.1 hall t hm)⟩)
    (by kernel_rfl)
end Go.Proofs.YbulkbuxwDoor.lawS3571CRange
