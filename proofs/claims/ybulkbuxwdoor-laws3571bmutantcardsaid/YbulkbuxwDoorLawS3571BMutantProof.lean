/-
  THE ROW AND THE TIED CARD of LawS3571BMutant. After the guide's MapyProofs, MapyCard (the witness in the heap that the door's own run leaves); the slice of tokens opened by YbulkbuxwDoorBOpen2.
-/
import Derived.Test.YbulkbuxwDoorBMutWalk
import Derived.Test.YbulkbuxwDoorBOpen2
import Derived.Test.YbulkbuxwDoorTie
import Derived.Test.YbulkbuxwDoorCards
import Derived.ProofKit
import Derived.LaidMore
import Derived.OpenShut
import Derived.ChangeOld
import Derived.Stop.Joined
import Derived.SevenTiedAt
namespace Go.Proofs.YbulkbuxwDoor.lawS3571BMutant
open Go Go.ChangeShapes Go.WideShapes Go.ChangeAt Go.RowKit

abbrev laidL : List (String × DataW Unit) := Rows.lawS3571BMutantRow.laid
theorem own : ownKnob Ybad.prog.godebug = none := by kernel_rfl
theorem laidOut : laidOutB Ybad.prog = true := by kernel_rfl

/-- The door's own heap meets the condition. -/
theorem door_met (os : Os) (args : Array Value) : laidMetH Ybad.prog laidL ((World.doorLaid Ybad.prog 400 os).forCall (fun _ _ => 0) ⟨#[], args, []⟩).memory :=
  laidMetH_of_parts3 (fuel := 8) (laidMet_of_run' 8 (by kernel_rfl) (by kernel_rfl)) (by kernel_rfl) (by kernel_rfl)

theorem walk (a : Option Addr) (n c : Nat) (sel kk : Int) (T : Toks) (w : World) (ht : TokAt w w.heap.size a n T) (hS : ∀ j, j < n → (T.str j).size ≤ 140737488351232) (w1 : (Lit.int .u8 sel).wf = true) (w2 : (Lit.int .u16 kk).wf = true) :
    Calls Ybad.prog 4 #[.slice a n c, .int .u8 sel, .int .u16 kk] w fun r w' => r = .returned (.bool true) ∧ Below w.heap.size w w' := by
  by_cases h : 300 < n
  · exact mutant_long a n c sel kk w h
  obtain ⟨s0, s1⟩ := bounds_u8 w1
  obtain ⟨k0, k1⟩ := bounds_u16 w2
  obtain ⟨sel, rfl⟩ := Int.eq_ofNat_of_zero_le s0
  obtain ⟨kk, rfl⟩ := Int.eq_ofNat_of_zero_le k0
  by_cases h0 : n ≤ 0
  · cases hm : ((sel : Int) % 4 == 0)
    · exact mutant_noneN a n c sel kk T w (by omega) (by omega) (by omega) ht h0 hm
    · exact mutant_noneY a n c sel kk T w (by omega) (by omega) (by omega) ht h0 hm
  rcases (show (sel : Int) % 4 = 0 ∨ (sel : Int) % 4 = 1 ∨ (sel : Int) % 4 = 2 ∨ (sel : Int) % 4 = 3 by omega) with hm | hm | hm | hm
  · exact mutant_same a n c sel kk T w (by omega) (by omega) (by omega) ht (by omega) hm
  · exact mutant_m1 a n c sel kk T w (by omega) (by omega) (by omega) ht (by omega) hm
  · exact mutant_m2 a n c sel kk T w (by omega) (by omega) (by omega) ht (by omega) hm
  · exact mutant_m3 a n c sel kk T w (by omega) (by omega) (by omega) ht (by omega) hm hS

set_option maxRecDepth 100000 in
theorem lifted (os : Os) (started : os.Started) (H : Type) (enc : TypeId × Value → H) :
    ReturnsInHanded {} Ybad.checked os 4 .any (fun w args => (Rows.lawS3571BMutantSpec.pre enc Ybad.prog Ybad.f4 [] false w args ∧ laidMetH Ybad.prog laidL w) ∧ sizedMet enc Ybad.prog Ybad.f4 (OpenSpec.ofChange Rows.lawS3571BMutantSpec) false w args)
      (Rows.lawS3571BMutantSpec.post enc Ybad.prog Ybad.f4 false true false false) := by
  refine returnsInHanded_of_change_and (C := Ybad.checked) (X := fun w _ => laidMetH Ybad.prog laidL w) (fun _ _ _ hh h => h.of_heap hh) own started (by kernel_rfl) Ybad.func4
    (ChangeSpec.witness_shaped (enc := enc) (C := Ybad.checked) (os := os) (X := fun w _ => laidMetH Ybad.prog laidL w) false (World.doorLaid Ybad.prog 400 os) #[.slice none 0 0, .int .u8 0, .int .u16 0] 8 rfl (World.shaped_of_RefB (by kernel_rfl) (by kernel_rfl)) (by kernel_rfl) (by kernel_rfl) (by kernel_rfl) (door_met os _)) ?_
  intro W base args ds gs before hval0 hW _ hsz0 hL _
  have hval : ∀ (j : Nat) t v, Ybad.f4.params[j]? = some t → args[j]? = some v → Value.okWide Ybad.prog W .any base t v := hval0
  have hW' := hW
  obtain ⟨p, q, hA0, hV, rfl, hfz, hnd⟩ := hW
  have hA : DataW.TrodAll enc Ybad.prog W 0 (fun _ => true) true Ybad.f4.params.toList args.toList ds p := hA0
  have hsz : (DataW.weightsEach Ybad.prog (Ybad.f4.params.toList ++ Rows.lawS3571BMutantSpec.plain.varTypes Ybad.prog) (ds ++ gs)).all (· ≤ reachBytes) = true := hsz0
  rw [Ybad.params4] at hA hval hsz
  obtain ⟨v0, v1, v2, d0, d1, d2, p0, p1, p2, rfl, rfl, rfl, h0, h1, h2⟩ := trodAll_three hA
  obtain ⟨rfl, rfl⟩ := trodVars_none hV
  obtain ⟨a0, len0, cap0, rfl⟩ := okWide_slice Ybad.underlying22 (hval 0 22 v0 rfl rfl)
  have k0 := h0
  have lt0 : ∀ x ∈ p0, x.block < W.heap.size := by obtain ⟨m, hm⟩ := k0; exact DataW.trod_lt m _ _ _ hm
  have hw0 : ∀ n ∈ d0.weights Ybad.prog 22, n ≤ 140737488351232 := fun n hn => by
    have := List.all_eq_true.1 hsz n (DataW.weights_mem_each (j := 0) (t := 22) (d := d0) rfl rfl n hn)
    exact of_decide_eq_true this
  obtain ⟨T, w0, hS⟩ : ∃ T, TokAt W W.heap.size a0 len0 T ∧ ∀ j, j < len0 → (T.str j).size ≤ 140737488351232 := by obtain ⟨fuel, hf⟩ := h0; exact tok_of_trod2 hf hw0
  obtain ⟨sel, rfl, rfl, rfl, w1⟩ := open_int Ybad.underlying5 (hval 1 5 v1 rfl rfl) h1
  obtain ⟨kk, rfl, rfl, rfl, w2⟩ := open_int Ybad.underlying33 (hval 2 33 v2 rfl rfl) h2
  clear hA0 hval0 hsz0
  refine (walk a0 len0 cap0 sel kk T W w0 hS w1 w2).mono fun e W' ⟨he, bel⟩ => ?_
  subst he
  exact ⟨_, rfl, _, _, _, [], _, [], hW', trodAll_mk1 (shut_bool Ybad.underlying4 _), (trodAll_cons_mk (Below.trod laidOut (by kernel_rfl) (of_decide_eq_true (by kernel_rfl)) k0 bel lt0) (trodAll_cons_mk (shut_int Ybad.underlying5 w1) (trodAll_cons_mk (shut_int Ybad.underlying33 w2) trodAll_mk0))), rfl, bel.frame _, fun h => by cases h⟩

theorem row_holds : Rows.LawS3571BMutantSaid :=
  OpenClaim.holds_of_wide 4 Ybad.f4 rfl rfl rfl rfl rfl rfl rfl ⟨rfl, rfl, rfl, rfl, rfl⟩ rfl rfl rfl rfl rfl (by kernel_rfl) Ybad.func4 (by kernel_rfl)
    (of_decide_eq_true (by kernel_rfl)) (by unfold Func.isWrapper; first | (rw [if_pos (by decide +kernel)]; kernel_rfl) | (rw [if_neg (by decide +kernel)]; exact ⟨rfl, rfl⟩))
    (fun os started H enc _ => lifted os started H enc)

/-- THE TIED CARD -/
theorem proved : Rows.LawS3571BMutantCardSaid :=
  Claim7.holds_tied_plain_at .later [] [.data, .data, .data] true (true, "353e2b3ec8ecd7293db9f4600c590d0554436afb14c97bd23ca74cb4775ed0d5") true
    row_holds (fun _ h => by cases h) (by kernel_rfl) (fun _ h => by cases h) lawS3571BMutant_row_tie rfl ⟨rfl, rfl⟩ (by kernel_rfl) rfl
    (fun f fn hf hfn => by
      obtain rfl : f = 4 := Option.some.inj ((show Ybad.prog.funcNamed Rows.lawS3571BMutantRow.func = some 4 by kernel_rfl).symm.trans hf) |>.symm
      obtain rfl : fn = Ybad.f4 := (Option.some.inj (Ybad.func4.symm.trans hfn)).symm
      exact ⟨by kernel_rfl, fun j t ht => by
        rw [Ybad.params4] at ht
        have hm : t ∈ [22, 5, 33] := by simpa using Array.mem_of_getElem? ht
        have hall : ([22, 5, 33].all fun u => !Ybad.prog.wantsStandIn u) = true := by kernel_rfl
        exact (show Ybad.prog.wantsStandIn t = false by simpa using List.all_eq_true.1 hall t hm)⟩)
    (by kernel_rfl)
end Go.Proofs.YbulkbuxwDoor.lawS3571BMutant
