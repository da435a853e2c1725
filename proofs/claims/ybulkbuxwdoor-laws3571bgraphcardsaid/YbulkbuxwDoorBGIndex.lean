/-
  slices.IndexFunc over the edges of one text, with sameGraph's own closure.
-/
import Derived.Test.YbulkbuxwDoorBModelWalk
import Derived.Test.YbulkbuxwDoorBGPlain
namespace Go.Proofs.YbulkbuxwDoor
open Go.RowKit
set_option linter.unusedVariables false

set_option maxHeartbeats 1000000 in
set_option maxRecDepth 100000 in
/-- The closure: sameEdge of the entry's edge and the edge at hand. -/
theorem clos_any (bx p : Nat) (r c pat ev v : Value) (x : Bool) (w : World) (hb : w.heap[bx]? = some (.cells #[.pointer (some ⟨p, 0, none⟩)] 46 (0, 0))) (hp : w.heap[p]? = some (.cells #[r, c, pat, ev] 51 (0, 0))) (hS : SameIn w ev v x) :
    Calls Ybad.prog 16 #[v, .pointer (some ⟨bx, 0, none⟩)] w fun r w' => r = .returned (.bool x) ∧ ∃ m, w' = w.drewN m := by
  have c0 := cell_of_one hb
  have c1 : w.cell? ⟨p, 3, none⟩ = some ev := by simp [World.cell?, hp]
  have s1 : Hid (SameIn w ev v x) := hS
  clear hS
  go_enter Ybad.func16, Ybad.ntmps16
  go_wp2_with fail
  refine s1.out.mono ?_
  rintro r w4 ⟨rfl, k1, rfl⟩
  go_wp2_with fail
  go_ret
  exact ⟨rfl, _, rfl⟩
/-- Where IndexFunc finds the edge: -1, or the first place. -/
def IndexPost (w : World) (es : List (List Norm)) (e : List Norm) (n : Nat) (r : Ending) (w' : World) : Prop :=
  (∃ m, w' = w.drewN m) ∧ ((r = .returned (.int .i64 (-1)) ∧ ∀ j, j < n → es.getD j [] ≠ e) ∨ ∃ k : Nat, k < n ∧ r = .returned (.int .i64 k) ∧ es.getD k [] = e ∧ ∀ j, j < k → es.getD j [] ≠ e)

set_option maxHeartbeats 1000000 in
set_option maxRecDepth 100000 in
theorem index_any (a : Option Addr) (n cp bx p F : Nat) (r c pat ev : Value) (es : List (List Norm)) (e : List Norm) (w : World) (hn : n ≤ 1000000) (hb : w.heap[bx]? = some (.cells #[.pointer (some ⟨p, 0, none⟩)] 46 (0, 0))) (hp : w.heap[p]? = some (.cells #[r, c, pat, ev] 51 (0, 0)))
    (hrow : ∀ j, j < n → ∃ g v, a = some ⟨g, 0, none⟩ ∧ w.cell? ⟨g, j, none⟩ = some v ∧ Tree w 0 F v (es.getD j [])) (hev : Tree w 0 F ev e) :
    Calls Ybad.prog 15 #[.slice a n cp, .func (.func 16) #[] #[.pointer (some ⟨bx, 0, none⟩)]] w fun r w' => IndexPost w es e n r w' := by
  have HH : Hid (∀ j, j < n → ∃ g v, a = some ⟨g, 0, none⟩ ∧ w.cell? ⟨g, j, none⟩ = some v ∧ Tree w 0 F v (es.getD j [])) := hrow
  have HB : Hid (w.heap[bx]? = some (.cells #[.pointer (some ⟨p, 0, none⟩)] 46 (0, 0)) ∧ w.heap[p]? = some (.cells #[r, c, pat, ev] 51 (0, 0)) ∧ Tree w 0 F ev e) := ⟨hb, hp, hev⟩
  clear hrow hb hp hev
  go_enter Ybad.func15, Ybad.ntmps15
  go_wp2_with fail
  go_loopw [5, 8] (fun _ j wx => ∃ k : Nat, k ≤ n ∧ j = .int .i64 k ∧ Hid (∀ i, i < k → es.getD i [] ≠ e) ∧ ∃ d, wx = w.drewN d) (fun _ j _ => n - (intOf j).toNat)
  case atStart => exact ⟨0, Nat.zero_le _, rfl, fun i hi => absurd hi (Nat.not_lt_zero i), 0, rfl⟩
  case round =>
    obtain ⟨k, hk, rfl, hall, d, rfl⟩ := hrel
    by_cases hlt : k < n
    · obtain ⟨g, v, rfl, cv, tv⟩ := HH.out k hlt
      have cv' : (w.drewN d).cell? ⟨g, k, none⟩ = some v := cv
      have kd := (Kept.refl w).drewN d
      have HC := clos_any bx p r c pat ev v _ (w.drewN d) HB.out.1 HB.out.2.1 (same_all _ _ _ _ _ _ _ _ (w.drewN d) (HB.out.2.2.kept kd) (tv.kept kd))
      obtain ⟨x, hx⟩ : ∃ x, Hid (eqE e (es.getD k []) = x) := ⟨_, rfl⟩
      rw [hx.out] at HC
      have hc : Hid (Calls Ybad.prog 16 #[v, .pointer (some ⟨bx, 0, none⟩)] (w.drewN d) fun r w' => r = .returned (.bool x) ∧ ∃ m, w' = (w.drewN d).drewN m) := HC
      obtain ⟨u, pv, rfl⟩ := tv.shape
      clear HC cv tv kd HH HB
      go_wp2_with fail
      refine hc.out.mono ?_
      rintro r w4 ⟨rfl, k1, rfl⟩
      cases x
      · go_wp2_with fail
        go_roundw
        case rel =>
          refine ⟨k + 1, by omega, by go_num, fun i hi => ?_, _, rfl⟩
          rcases Nat.lt_succ_iff_lt_or_eq.1 hi with h1 | rfl
          · exact hall.out i h1
          · have := hx.out
            simp only [eqE, decide_eq_false_iff_not] at this
            exact fun h => this h.symm
        case measure => simp [intOf]; omega
      · go_wp2_with fail
        go_ret
        have := hx.out
        simp only [eqE, decide_eq_true_eq] at this
        exact ⟨⟨_, rfl⟩, .inr ⟨k, hlt, rfl, this.symm, hall.out⟩⟩
    · obtain rfl : k = n := by omega
      clear HH HB
      go_wp2_with fail
      go_ret
      exact ⟨⟨d, rfl⟩, .inl ⟨rfl, hall.out⟩⟩
end Go.Proofs.YbulkbuxwDoor
