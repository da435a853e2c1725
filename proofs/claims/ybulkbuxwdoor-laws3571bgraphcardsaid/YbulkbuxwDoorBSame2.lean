/-
  sameEdge at two applies, at two tuples; the induction over the tree.
-/
import Derived.Test.YbulkbuxwDoorBSame
import Derived.Deep.RegionWith
namespace Go.Proofs.YbulkbuxwDoor
open Go.RowKit

/-- The answer at one pair of edges, in whatever world differs from w by draws alone. -/
def SameAt (w : World) (v v' : Value) (a : Bool) : Prop :=
  ∀ n, Calls Ybad.prog 9 #[v, v'] (w.drewN n) fun r w' => r = .returned (.bool a) ∧ ∃ m, w' = (w.drewN n).drewN m

theorem SameAt.drewN {w : World} {v v' : Value} {a : Bool} (h : SameAt w v v' a) (d : Nat) : SameAt (w.drewN d) v v' a := fun n => by
  have := h (d + n)
  rw [World.drewN_drewN]; exact this

set_option maxHeartbeats 1000000 in
set_option maxRecDepth 100000 in
theorem same_apply_yes (b b' : Nat) (v1 v2 v1' v2' : Value) (x : Bool) (w : World) (h1 : w.cell? ⟨b, 0, none⟩ = some v1) (h2 : w.cell? ⟨b, 1, none⟩ = some v2) (h1' : w.cell? ⟨b', 0, none⟩ = some v1') (h2' : w.cell? ⟨b', 1, none⟩ = some v2')
    (s1 : SameAt w v1 v1' true) (s2 : SameAt w v2 v2' x) :
    Calls Ybad.prog 9 #[.iface 52 (.pointer (some ⟨b, 0, none⟩)), .iface 52 (.pointer (some ⟨b', 0, none⟩))] w fun r w' => r = .returned (.bool x) ∧ ∃ m, w' = w.drewN m := by
  have t1 := as_52_53
  have t2 := as_52_47
  have t3 := as_52_52
  go_enter Ybad.func9, Ybad.ntmps9
  go_wp2_with fail
  go_quiet (first | (go_at_call_of 9 v1; exact Calls.quiet_of (s1 _)) | (go_at_call_of 9 v2; exact Calls.quiet_of (s2 _)))
  go_wp2_with fail
  go_ret
  exact ⟨rfl, _, rfl⟩
set_option maxHeartbeats 1000000 in
set_option maxRecDepth 100000 in
theorem same_apply_no (b b' : Nat) (v1 v1' : Value) (w : World) (h1 : w.cell? ⟨b, 0, none⟩ = some v1) (h1' : w.cell? ⟨b', 0, none⟩ = some v1')
    (s1 : SameAt w v1 v1' false) :
    Calls Ybad.prog 9 #[.iface 52 (.pointer (some ⟨b, 0, none⟩)), .iface 52 (.pointer (some ⟨b', 0, none⟩))] w fun r w' => r = .returned (.bool false) ∧ ∃ m, w' = w.drewN m := by
  have t1 := as_52_53
  have t2 := as_52_47
  have t3 := as_52_52
  go_enter Ybad.func9, Ybad.ntmps9
  go_wp2_with fail
  go_quiet (first | (go_at_call_of 9 v1; exact Calls.quiet_of (s1 _)))
  go_wp2_with fail
  go_ret
  exact ⟨rfl, _, rfl⟩

set_option maxHeartbeats 1000000 in
set_option maxRecDepth 100000 in
theorem tuple_len (b b' : Nat) (g g' : Option Addr) (m cp m' cp' : Nat) (w : World) (h : w.cell? ⟨b, 2, none⟩ = some (.slice g m cp)) (h' : w.cell? ⟨b', 2, none⟩ = some (.slice g' m' cp')) (hne : ((m : Int) != (m' : Int)) = true) :
    Calls Ybad.prog 9 #[.iface 74 (.pointer (some ⟨b, 0, none⟩)), .iface 74 (.pointer (some ⟨b', 0, none⟩))] w fun r w' => r = .returned (.bool false) ∧ ∃ m, w' = w.drewN m := by
  have t1 := as_74_53
  have t2 := as_74_47
  have t3 := as_74_52
  have t4 := as_74_74
  go_enter Ybad.func9, Ybad.ntmps9
  go_wp2_with fail
  go_quiet (fail)
  go_wp2_with fail
  go_ret
  exact ⟨rfl, _, rfl⟩

set_option maxHeartbeats 1000000 in
set_option maxRecDepth 100000 in
theorem tuple_eq (b b' g g' m cp cp' : Nat) (V V' : Nat → Value) (A : Nat → Bool) (x : Bool) (w : World) (h : w.cell? ⟨b, 2, none⟩ = some (.slice (some ⟨g, 0, none⟩) m cp)) (h' : w.cell? ⟨b', 2, none⟩ = some (.slice (some ⟨g', 0, none⟩) m cp')) (hm : m ≤ 3)
    (hV : ∀ i, i < m → w.cell? ⟨g, i, none⟩ = some (V i)) (hV' : ∀ i, i < m → w.cell? ⟨g', i, none⟩ = some (V' i)) (hA : ∀ i, i < m → SameAt w (V i) (V' i) (A i)) (hx : x = true ↔ ∀ i, i < m → A i = true) :
    Calls Ybad.prog 9 #[.iface 74 (.pointer (some ⟨b, 0, none⟩)), .iface 74 (.pointer (some ⟨b', 0, none⟩))] w fun r w' => r = .returned (.bool x) ∧ ∃ m, w' = w.drewN m := by
  have t1 := as_74_53
  have t2 := as_74_47
  have t3 := as_74_52
  have t4 := as_74_74
  have HV : Hid (∀ i, i < m → w.cell? ⟨g, i, none⟩ = some (V i) ∧ w.cell? ⟨g', i, none⟩ = some (V' i) ∧ SameAt w (V i) (V' i) (A i)) := fun i hi => ⟨hV i hi, hV' i hi, hA i hi⟩
  have HX : Hid (x = true ↔ ∀ i, i < m → A i = true) := hx
  clear hV hV' hA hx
  go_enter Ybad.func9, Ybad.ntmps9
  go_wp2_with fail
  go_quiet (fail)
  go_wp2_with fail
  clear t1 t2 t3 t4
  go_loopw [17, 121] (fun _ j wx => ∃ k : Nat, k ≤ m ∧ j = .int .i64 k ∧ Hid (∀ i, i < k → A i = true) ∧ ∃ d, wx = w.drewN d) (fun _ j _ => m - (intOf j).toNat)
  case atStart => exact ⟨0, Nat.zero_le _, rfl, fun i hi => absurd hi (Nat.not_lt_zero i), _, rfl⟩
  case round =>
    obtain ⟨k, hk, rfl, hall, hd⟩ := hrel
    have HD : Hid (∃ d, wr = w.drewN d) := hd
    have hb1 : wr.cell? ⟨b, 2, none⟩ = some (.slice (some ⟨g, 0, none⟩) m cp) := by obtain ⟨d, rfl⟩ := hd; exact h
    have hb2 : wr.cell? ⟨b', 2, none⟩ = some (.slice (some ⟨g', 0, none⟩) m cp') := by obtain ⟨d, rfl⟩ := hd; exact h'
    by_cases hlt : k < m
    · have hpk : wr.cell? ⟨g, k, none⟩ = some (V k) ∧ wr.cell? ⟨g', k, none⟩ = some (V' k) ∧ SameAt wr (V k) (V' k) (A k) := by
        obtain ⟨d, rfl⟩ := hd
        obtain ⟨c1, c2, s⟩ := HV.out k hlt
        exact ⟨c1, c2, s.drewN d⟩
      obtain ⟨c1, c2, s⟩ := hpk
      clear hd h h'
      generalize V k = vk at *
      generalize V' k = vk' at *
      cases hAk : A k
      · rw [hAk] at s
        have hxf : x = false := by
          cases hxx : x
          · rfl
          · exact absurd (HX.out.1 hxx k hlt) (by rw [hAk]; decide)
        subst hxf
        clear hAk HX HV
        go_wp2_with fail
        go_quiet (first | (go_at_call 9; exact Calls.quiet_of (s _)))
        go_wp2_with fail
        go_ret
        obtain ⟨d, hd⟩ := HD.out
        exact ⟨rfl, _, by rw [hd, World.drewN_drewN]⟩
      · rw [hAk] at s
        have HAK : Hid (A k = true) := hAk
        clear hAk
        go_wp2_with fail
        go_quiet (first | (go_at_call 9; exact Calls.quiet_of (s _)))
        go_wp2_with fail
        go_roundw
        case rel =>
          refine ⟨k + 1, by omega, by go_num, fun i hi => ?_, ?_⟩
          · rcases Nat.lt_succ_iff_lt_or_eq.1 hi with h1 | rfl
            · exact hall.out i h1
            · exact HAK.out
          · obtain ⟨d, hd⟩ := HD.out
            exact ⟨_, by rw [hd, World.drewN_drewN]⟩
        case measure => simp [intOf]; omega
    · obtain rfl : k = m := by omega
      have hxt : x = true := HX.out.2 hall.out
      subst hxt
      clear HX HV hd
      go_wp2_with fail
      go_ret
      exact ⟨rfl, HD.out⟩
end Go.Proofs.YbulkbuxwDoor
