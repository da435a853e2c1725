/-
  The walks of LawS3571CExact and LawS3571CRange; rem is entered in place.
-/
import Derived.Test.YbulkbuxwDoorRows
import Derived.WalkKit
import Derived.WalkSpells
import Derived.BigQuiet
import Derived.Deep.QuietTactic
import Derived.LaidEql
import Derived.Test.YbulkbuxwDoorRemArith
namespace Go.Proofs.YbulkbuxwDoor
open Go.RowKit

theorem comp112 : (Ybad.prog.info? 112).map (·.comparable) = some true := by kernel_rfl
theorem info138 : (Ybad.prog.info? 138).map (fun _ => ()) = some () := by kernel_rfl
theorem assert_number (v : Value) (w : World) : (Instr.typeAssert (.iface 65 v) 60 65 true).run Ybad.prog w = .ok (.tuple #[v, .bool true]) w := by kernel_rfl

set_option maxHeartbeats 1000000 in
set_option maxRecDepth 100000 in
theorem exact_zero (a : Int) (p : Addr) (w : World) (hg : w.cell? ⟨0, 0, none⟩ = some (.iface 112 (.pointer (some p)))) :
    Calls Ybad.prog 6 #[.int .i64 a, .int .i64 0] w fun e w' => e = .returned (.bool true) ∧ w'.Alike w := by
  obtain ⟨i, hi, hcm⟩ := Option.map_eq_some_iff.1 comp112
  obtain ⟨j, hj, _⟩ := Option.map_eq_some_iff.1 info138
  have heq := fun w => run_eql_iface_ptr_same (P := Ybad.prog) w p Ybad.underlying62 Ybad.underlying112 hi hcm hj
  go_enter Ybad.func6, Ybad.ntmps6
  go_wp2
  go_quiet (fail)
  go_wp2
  go_ret
  exact ⟨rfl, rfl, rfl, rfl⟩

set_option maxHeartbeats 1000000 in
set_option maxRecDepth 100000 in
theorem exact_other (a b : Int) (w : World) (hb : b ≠ 0) (a0 : -9223372036854775808 ≤ a) (a1 : a ≤ 9223372036854775807) (b0 : -9223372036854775808 ≤ b) (b1 : b ≤ 9223372036854775807) :
    Calls Ybad.prog 6 #[.int .i64 a, .int .i64 b] w fun e w' => e = .returned (.bool true) ∧ w' = w := by
  have hfin := rem_want a b hb a0 a1 b0 b1
  have hbb : (b == 0) = false := by simp [hb]
  have hta := assert_number
  clear a0 a1 b0 b1
  go_enter Ybad.func6, Ybad.ntmps6
  go_wp2
  go_ret
  exact ⟨rfl, rfl⟩

theorem range_zero (a : Int) (w : World) : Calls Ybad.prog 7 #[.int .i64 a, .int .i64 0] w fun e w' => e = .returned (.bool true) ∧ w' = w := by
  go_enter Ybad.func7, Ybad.ntmps7
  go_wp2
  go_ret
  exact ⟨rfl, rfl⟩

/-- The law's tests over the remainder r: parted by the signs of r and b, and at the least int64. -/
theorem range_cases (a b r : Int) (_hb : b ≠ 0) (h1 : 0 ≤ a → 0 ≤ r) (h2 : a ≤ 0 → r ≤ 0) (h3 : 0 < b → -b < r ∧ r < b) (h4 : b < 0 → b < r ∧ r < -b) (_b0 : -9223372036854775808 ≤ b) :
    ((r != 0) = false ∨ ((r != 0) = true ∧ 0 < r ∧ 0 < a) ∨ ((r != 0) = true ∧ r < 0 ∧ a < 0)) ∧
    ((0 < b ∧ -b < r ∧ r < b) ∨ (b < 0 ∧ b < r ∧ (b == -9223372036854775808) = true) ∨ (b < 0 ∧ b < r ∧ (b == -9223372036854775808) = false ∧ -9223372036854775808 < b ∧ r < -b)) := by
  refine ⟨?_, ?_⟩
  · by_cases e : r = 0
    · exact .inl (by simp [e])
    · by_cases ha : 0 ≤ a
      · exact .inr (.inl ⟨by simp [e], by have := h1 ha; omega, by have := h1 ha; by_cases h : a = 0; (have := h2 (by omega); omega); omega⟩)
      · exact .inr (.inr ⟨by simp [e], by have := h2 (by omega); omega, by omega⟩)
  · by_cases p : 0 < b
    · exact .inl ⟨p, h3 p⟩
    · have := h4 (by omega)
      by_cases e : b = -9223372036854775808
      · exact .inr (.inl ⟨by omega, this.1, by simp [e]⟩)
      · exact .inr (.inr ⟨by omega, this.1, by simp [e], by omega, this.2⟩)

set_option maxHeartbeats 4000000 in
set_option maxRecDepth 100000 in
theorem range_other (a b : Int) (w : World) (hb : b ≠ 0) (b0 : -9223372036854775808 ≤ b) (b1 : b ≤ 9223372036854775807) :
    Calls Ybad.prog 7 #[.int .i64 a, .int .i64 b] w fun e w' => e = .returned (.bool true) ∧ w' = w := by
  obtain ⟨f1, f2, f3, f4⟩ := tmod_facts a b hb
  obtain ⟨hr, hB⟩ := range_cases a b (a.tmod b) hb f1 f2 f3 f4 b0
  have hbb : (b == 0) = false := by simp [hb]
  have hta := assert_number
  clear f1 f2 f3 f4
  have hr' : (a.tmod b != 0) = false ∨ ((a.tmod b != 0) = true ∧ decide (0 < a.tmod b) = true ∧ decide (0 < a) = true) ∨ ((a.tmod b != 0) = true ∧ decide (0 < a.tmod b) = false ∧ decide (0 < a) = false) := by
    rcases hr with hr | ⟨hr, hr1, hr2⟩ | ⟨hr, hr1, hr2⟩
    · exact .inl hr
    · exact .inr (.inl ⟨hr, by simpa using hr1, by simpa using hr2⟩)
    · exact .inr (.inr ⟨hr, by simp; omega, by simp; omega⟩)
  clear hr
  rcases hr' with hr | ⟨hr, hr1, hr2⟩ | ⟨hr, hr1, hr2⟩
  all_goals
    rcases hB with ⟨g1, g2, g3⟩ | ⟨g1, g2, g3⟩ | ⟨g1, g2, g3, g4, g5⟩
    all_goals
      go_enter Ybad.func7, Ybad.ntmps7
      go_wp2
      go_ret
      exact ⟨rfl, rfl⟩
end Go.Proofs.YbulkbuxwDoor
