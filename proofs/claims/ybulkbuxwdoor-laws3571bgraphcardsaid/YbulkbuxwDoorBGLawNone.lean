/-
  The walk of LawS3571BGraph: there is no entry.
-/
import Derived.Test.YbulkbuxwDoorBGLawHeap
namespace Go.Proofs.YbulkbuxwDoor
open Go.RowKit
set_option linter.unusedVariables false

set_option maxHeartbeats 4000000 in
set_option maxRecDepth 100000 in
theorem law_none (a : Option Addr) (n c mu : Nat) (X : Ents) (w : World) (hn : n ≤ 256) (hmu : mu ≤ 255) (hE : EntsAt w w.heap.size a n X) (hm : ((mu : Int) % 2 == 1) = true) (h0 : n ≤ 0) :
    Calls Ybad.prog 5 #[.slice a n c, .int .u8 mu] w fun r w' => r = .returned (.bool true) ∧ Below w.heap.size w w' := by
  have HE : Hid (EntsAt w w.heap.size a n X) := hE
  clear hE
  go_enter Ybad.func5, Ybad.ntmps5
  go_wp2_with fail
  go_loopw [5] (fun j wx => ∃ k : Nat, k ≤ n ∧ j = .int .i64 k ∧ Hid (∀ i, i < k → X.TL i ≤ 256) ∧ w = wx) (fun j _ => n - (intOf j).toNat)
  case atStart => exact ⟨0, Nat.zero_le _, rfl, fun i hi => absurd hi (Nat.not_lt_zero i), rfl⟩
  case round =>
    obtain ⟨k, hk, rfl, hall, hw⟩ := hrel
    subst hw
    by_cases hlt : k < n
    · exact absurd hlt (by omega)
    · obtain rfl : k = n := by omega
      have hd0 : decide ((0 : Int) < (k : Int)) = false := by simp; omega
      go_wp2_with fail
      obtain ⟨F, hF⟩ : ∃ F, Hid (256 ≤ F) := ⟨256, Nat.le_refl _⟩
      obtain ⟨E, hEn⟩ : ∃ E : Nat → List Norm, Hid (∀ j, (encF (X.T j) (X.TL j) F 0).1 = E j) := ⟨_, fun _ => rfl⟩
      go_loopw [10] (fun j wx => ∃ i : Nat, i ≤ k ∧ j = .int .i64 i ∧ GraphAt (F + 2) wx w.heap.size w.heap.size (pref X.P E i) ∧ Below w.heap.size w wx ∧ w.heap.size < wx.heap.size) (fun j _ => k - (intOf j).toNat)
      case atStart => exact ⟨0, Nat.zero_le _, rfl, graph_start _ _ _ _ _, (Below.refl _ w).alloc (Nat.le_refl _) _, by simp⟩
      case round =>
        obtain ⟨i, hi, rfl, hgr, hbel, hsz⟩ := hrel
        by_cases hlt2 : i < k
        · exact absurd hlt2 (by omega)
        · obtain rfl : i = k := by omega
          obtain ⟨w3, hw3⟩ : ∃ w3, w3 = wr := ⟨_, rfl⟩
          subst hw3
          go_wp2_with fail
          go_loopw [14] (fun j wx => ∃ (q : Nat) (jj : Int), q ≤ i ∧ jj + 1 = q ∧ j = .int .i64 jj ∧ GraphAt (F + 2) wx w3.heap.size w3.heap.size (suf X.P E i q) ∧ Below w3.heap.size w3 wx ∧ w3.heap.size < wx.heap.size) (fun j _ => (intOf j + 1).toNat)
          case atStart => exact ⟨i, (i : Int) - 1, Nat.le_refl _, by omega, by go_num, by rw [suf_start]; exact graph_start _ _ _ _ _, (Below.refl _ w3).alloc (Nat.le_refl _) _, by simp⟩
          case round =>
            obtain ⟨q, jj, hq, hjj, rfl, hgr3, hbel3, hsz3⟩ := hrel
            cases q with
            | zero =>
              obtain rfl : jj = -1 := by omega
              have hbel4 := hbel.trans (hbel3.mono (Nat.le_of_lt hsz))
              have gA := hgr.below (Nat.le_of_lt hsz3) hbel3
              have HS := graph_any w.heap.size w3.heap.size _ _ (F + 2) i (pref X.P E i) (suf X.P E i 0) wr (pref_length _ _ _) (suf_length _ _ _ _) hn gA hgr3 (fun x hx => by
                  obtain ⟨j, hj, rfl⟩ := mem_pref hx
                  obtain ⟨_, _, _, _, _, _, h, _⟩ := HE.out j hj
                  exact h) (fun x hx => by
                  rw [suf_zero, List.mem_reverse] at hx
                  obtain ⟨j, hj, rfl⟩ := mem_pref hx
                  obtain ⟨_, _, _, _, _, _, h, _⟩ := HE.out j hj
                  exact h)
              have hS : Hid (Calls Ybad.prog 9 #[.iface 40 (.pointer (some ⟨w.heap.size, 0, none⟩)), .iface 40 (.pointer (some ⟨w3.heap.size, 0, none⟩))] wr fun r w' => ∃ x, r = .returned (.bool x) ∧ (x = true ↔ (pref X.P E i).Perm (suf X.P E i 0)) ∧ Below wr.heap.size wr w') := HS
              clear HS gA hgr hgr3 hbel3 hbel
              go_wp2_with fail
              refine hS.out.mono ?_
              rintro r w5 ⟨x, rfl, hx, bel5⟩
              have BEL := hbel4.trans (bel5.mono (by omega))
              have hxx : x = true := hx.2 (perm_same X.P E i)
              clear hx
              subst hxx
              clear hS bel5 hbel4
              go_wp2_with fail
              go_ret
              exact ⟨by simp, BEL⟩
            | succ q =>
              exact absurd hq (by omega)
end Go.Proofs.YbulkbuxwDoor
