/-
  THE ROW AND THE TIED CARD of LawS3571BGraph. After the guide's MapyProofs, MapyCard (the witness in the heap that the door's own run leaves); the slice of entries opened by YbulkbuxwDoorBGOpen.
-/
import Derived.Test.YbulkbuxwDoorBGLawSame
import Derived.Test.YbulkbuxwDoorBGLawMut
import Derived.Test.YbulkbuxwDoorBGLawNone
import Derived.Test.YbulkbuxwDoorBGOpen
import Derived.Test.YbulkbuxwDoorTie
import Derived.Test.YbulkbuxwDoorCards
import Derived.ProofKit
import Derived.LaidMore
import Derived.OpenShut
import Derived.ChangeOld
import Derived.Stop.Joined
import Derived.SevenTiedAt
namespace Go.Proofs.YbulkbuxwDoor.lawS3571BGraph
open Go Go.ChangeShapes Go.WideShapes Go.ChangeAt Go.RowKit

abbrev laidL : List (String × DataW Unit) := Rows.lawS3571BGraphRow.laid
theorem own : ownKnob Ybad.prog.godebug = none := by kernel_rfl
theorem laidOut : laidOutB Ybad.prog = true := by kernel_rfl

/-- The door's own heap meets the condition. -/
theorem door_met (os : Os) (args : Array Value) : laidMetH Ybad.prog laidL ((World.doorLaid Ybad.prog 400 os).forCall (fun _ _ => 0) ⟨#[], args, []⟩).memory :=
  laidMetH_of_parts3 (fuel := 8) (laidMet_of_run' 8 (by kernel_rfl) (by kernel_rfl)) (by kernel_rfl) (by kernel_rfl)

set_option maxRecDepth 100000 in
theorem long (a : Option Addr) (n c : Nat) (mu : Int) (w : World) (h : 256 < n) :
    Calls Ybad.prog 5 #[.slice a n c, .int .u8 mu] w fun r w' => r = .returned (.bool true) ∧ Below w.heap.size w w' := by
  go_enter Ybad.func5, Ybad.ntmps5
  go_wp2_with fail
  go_ret
  exact ⟨rfl, Below.refl _ _⟩

theorem walk (a : Option Addr) (n c : Nat) (mu : Int) (X : Ents) (w : World) (hE : EntsAt w w.heap.size a n X) (w1 : (Lit.int .u8 mu).wf = true) :
    Calls Ybad.prog 5 #[.slice a n c, .int .u8 mu] w fun r w' => r = .returned (.bool true) ∧ Below w.heap.size w w' := by
  by_cases h : 256 < n
  · exact long a n c mu w h
  obtain ⟨s0, s1⟩ := bounds_u8 w1
  obtain ⟨mu, rfl⟩ := Int.eq_ofNat_of_zero_le s0
  cases hm : ((mu : Int) % 2 == 1)
  · exact law_same a n c mu X w (by omega) (by omega) hE hm
  by_cases h0 : n ≤ 0
  · exact law_none a n c mu X w (by omega) (by omega) hE hm h0
  · exact law_mut a n c mu X w (by omega) (by omega) hE hm (by omega)

set_option maxRecDepth 100000 in
theorem lifted (os : Os) (started : os.Started) (H : Type) (enc : TypeId × Value → H) :
    ReturnsInHanded {} Ybad.checked os 5 .any (fun w args => (Rows.lawS3571BGraphSpec.pre enc Ybad.prog Ybad.f5 [] false w args ∧ laidMetH Ybad.prog laidL w) ∧ sizedMet enc Ybad.prog Ybad.f5 (OpenSpec.ofChange Rows.lawS3571BGraphSpec) false w args)
      (Rows.lawS3571BGraphSpec.post enc Ybad.prog Ybad.f5 false true false false) := by
  refine returnsInHanded_of_change_and (C := Ybad.checked) (X := fun w _ => laidMetH Ybad.prog laidL w) (fun _ _ _ hh h => h.of_heap hh) own started (by kernel_rfl) Ybad.func5
    (ChangeSpec.witness_shaped (enc := enc) (C := Ybad.checked) (os := os) (X := fun w _ => laidMetH Ybad.prog laidL w) false (World.doorLaid Ybad.prog 400 os) #[.slice none 0 0, .int .u8 0] 8 rfl (World.shaped_of_RefB (by kernel_rfl) (by kernel_rfl)) (by kernel_rfl) (by kernel_rfl) (by kernel_rfl) (door_met os _)) ?_
  intro W base args ds gs before hval0 hW _ hsz0 hL _
  have hval : ∀ (j : Nat) t v, Ybad.f5.params[j]? = some t → args[j]? = some v → Value.okWide Ybad.prog W .any base t v := hval0
  have hW' := hW
  obtain ⟨p, q, hA0, hV, rfl, hfz, hnd⟩ := hW
  have hA : DataW.TrodAll enc Ybad.prog W 0 (fun _ => true) true Ybad.f5.params.toList args.toList ds p := hA0
  have hsz : (DataW.weightsEach Ybad.prog (Ybad.f5.params.toList ++ Rows.lawS3571BGraphSpec.plain.varTypes Ybad.prog) (ds ++ gs)).all (· ≤ reachBytes) = true := hsz0
  rw [Ybad.params5] at hA hval hsz
  obtain ⟨v0, v1, d0, d1, p0, p1, rfl, rfl, rfl, h0, h1⟩ := trodAll_two hA
  obtain ⟨rfl, rfl⟩ := trodVars_none hV
  obtain ⟨a0, len0, cap0, rfl⟩ := okWide_slice Ybad.underlying37 (hval 0 37 v0 rfl rfl)
  have k0 := h0
  have lt0 : ∀ x ∈ p0, x.block < W.heap.size := by obtain ⟨m, hm⟩ := k0; exact DataW.trod_lt m _ _ _ hm
  have hw0 : ∀ n ∈ d0.weights Ybad.prog 37, n ≤ 140737488351232 := fun n hn => by
    have := List.all_eq_true.1 hsz n (DataW.weights_mem_each (j := 0) (t := 37) (d := d0) rfl rfl n hn)
    exact of_decide_eq_true this
  obtain ⟨X, w0⟩ : ∃ X, EntsAt W W.heap.size a0 len0 X := by obtain ⟨fuel, hf⟩ := h0; exact ents_of_trod hf hw0
  obtain ⟨mu, rfl, rfl, rfl, w1⟩ := open_int Ybad.underlying5 (hval 1 5 v1 rfl rfl) h1
  clear hA0 hval0 hsz0
  refine (walk a0 len0 cap0 mu X W w0 w1).mono fun e W' ⟨he, bel⟩ => ?_
  subst he
  exact ⟨_, rfl, _, _, _, [], _, [], hW', trodAll_mk1 (shut_bool Ybad.underlying4 _), (trodAll_cons_mk (Below.trod laidOut (by kernel_rfl) (of_decide_eq_true (by kernel_rfl)) k0 bel lt0) (trodAll_cons_mk (shut_int Ybad.underlying5 w1) trodAll_mk0)), rfl, bel.frame _, fun h => by cases h⟩

theorem row_holds : Rows.LawS3571BGraphSaid :=
  OpenClaim.holds_of_wide 5 Ybad.f5 rfl rfl rfl rfl rfl rfl rfl ⟨rfl, rfl, rfl, rfl, rfl⟩ rfl rfl rfl rfl rfl (by kernel_rfl) Ybad.func5 (by kernel_rfl)
    (of_decide_eq_true (by kernel_rfl)) (by unfold Func.isWrapper; first | (rw [if_pos (by decide +kernel)]; kernel_rfl) | (rw [if_neg (by decide +kernel)]; exact ⟨rfl, rfl⟩))
    (fun os started H enc _ => lifted os started H enc)

/-- THE TIED CARD -/
theorem proved : Rows.LawS3571BGraphCardSaid :=
  Claim7.holds_tied_plain_at .later [] [.data, .data, .data] true (true, "353e2b3ec8ecd7293db9f4600c590d0554436afb14c97bd23ca74cb4775ed0d5") true
    row_holds (fun _ h => by cases h) (by kernel_rfl) (fun _ h => by cases h) lawS3571BGraph_row_tie rfl ⟨rfl, rfl⟩ (by kernel_rfl) rfl
    (fun f fn hf hfn => by
      obtain rfl : f = 5 := Option.some.inj ((show Ybad.prog.funcNamed Rows.lawS3571BGraphRow.func = some 5 by kernel_rfl).symm.trans hf) |>.symm
      obtain rfl : fn = Ybad.f5 := (Option.some.inj (Ybad.func5.symm.trans hfn)).symm
      exact ⟨by kernel_rfl, fun j t ht => by
        rw [Ybad.params5] at ht
        have hm : t ∈ [37, 5] := by simpa using Array.mem_of_getElem? ht
        have hall : ([37, 5].all fun u => !Ybad.prog.wantsStandIn u) = true := by kernel_rfl
        exact (show Ybad.prog.wantsStandIn t = false by simpa using List.all_eq_true.1 hall t hm)⟩)
    (by kernel_rfl)
end Go.Proofs.YbulkbuxwDoor.lawS3571BGraph
