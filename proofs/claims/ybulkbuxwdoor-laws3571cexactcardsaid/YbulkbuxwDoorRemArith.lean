/-
  Plain arithmetic of Go's truncated remainder on int64. No Go in this text beyond the kit's 'wrap64'.
-/
import Derived.WalkKit
namespace Go.Proofs.YbulkbuxwDoor
open Go.RowKit

theorem tmod_facts (a b : Int) (hb : b ≠ 0) :
    (0 ≤ a → 0 ≤ a.tmod b) ∧ (a ≤ 0 → a.tmod b ≤ 0) ∧ (0 < b → -b < a.tmod b ∧ a.tmod b < b) ∧ (b < 0 → b < a.tmod b ∧ a.tmod b < -b) := by
  have key : ∀ x y : Int, 0 ≤ x → 0 < y → 0 ≤ x.tmod y ∧ x.tmod y < y := fun x y hx hy => by
    rw [Int.tmod_eq_emod_of_nonneg hx]
    exact ⟨Int.emod_nonneg _ (by omega), Int.emod_lt_of_pos _ hy⟩
  have abs : ∀ x : Int, (0 ≤ x → 0 ≤ x.tmod b) ∧ (0 ≤ x → 0 < b → x.tmod b < b) ∧ (0 ≤ x → b < 0 → x.tmod b < -b) := by
    intro x
    refine ⟨fun h => ?_, fun h p => (key x b h p).2, fun h p => ?_⟩
    · by_cases p : 0 < b
      · exact (key x b h p).1
      · have := (key x (-b) h (by omega)).1
        rwa [Int.tmod_neg] at this
    · have := (key x (-b) h (by omega)).2
      rwa [Int.tmod_neg] at this
  have hn : (-a).tmod b = -(a.tmod b) := Int.neg_tmod a b
  have h1 := abs a
  have h2 := abs (-a)
  rw [hn] at h2
  generalize a.tmod b = r at *
  refine ⟨fun h => h1.1 h, fun h => ?_, fun p => ?_, fun p => ?_⟩
  · have := h2.1 (by omega); omega
  · by_cases h : 0 ≤ a
    · have := h1.1 h; have := h1.2.1 h p; omega
    · have := h2.1 (by omega); have := h2.2.1 (by omega) p; omega
  · by_cases h : 0 ≤ a
    · have := h1.1 h; have := h1.2.2 h p; omega
    · have := h2.1 (by omega); have := h2.2.2 (by omega) p; omega

theorem wrap64_cong (x : Int) : ∃ k, wrap64 x = x + 18446744073709551616 * k := by
  refine ⟨-((x + 9223372036854775808) / 18446744073709551616), ?_⟩
  unfold wrap64
  omega

theorem rem_want (a b : Int) (hb : b ≠ 0) (a0 : -9223372036854775808 ≤ a) (a1 : a ≤ 9223372036854775807) (b0 : -9223372036854775808 ≤ b) (b1 : b ≤ 9223372036854775807) :
    wrap64 (a - wrap64 (b * wrap64 (a.tdiv b))) = a.tmod b := by
  obtain ⟨h1, h2, h3, h4⟩ := tmod_facts a b hb
  have hdm : b * a.tdiv b + a.tmod b = a := Int.mul_tdiv_add_tmod a b
  obtain ⟨k, hk⟩ := wrap64_cong (a.tdiv b)
  rw [hk, Int.mul_add, Int.mul_left_comm]
  obtain ⟨k2, hk2⟩ := wrap64_cong (b * a.tdiv b + 18446744073709551616 * (b * k))
  rw [hk2]
  generalize a.tmod b = r at *
  generalize b * a.tdiv b = p at *
  generalize b * k = m at *
  unfold wrap64
  omega
end Go.Proofs.YbulkbuxwDoor
