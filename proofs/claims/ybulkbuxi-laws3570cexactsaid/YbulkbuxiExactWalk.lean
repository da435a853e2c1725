/-
  The walk of LawS3570CExact: fits and Mul64 by their contracts; the cases parted ahead.
-/
import Derived.Test.YbulkbuxiFits
import Derived.OpenShut
namespace Go.Proofs.Ybulkbuxi
open Go.RowKit

/-- What the law's later tests ask of fits' answer, where the data reach past the offset and size is not 0. -/
theorem fits_exact (s a1 a2 a3 : Int) (h1 : ¬ s < a2) (h3 : 0 < a3) (b1 : 0 ≤ a1) (s1 : s ≤ 18446744073709551615) (b2 : 0 ≤ a2) :
    ∃ g l, fitsOf s a1 a2 a3 = g ∧ mulHi g a3 = 0 ∧ mulLo g a3 = l ∧ 0 ≤ g ∧ 0 ≤ l ∧ l ≤ s - a2 ∧ (g = a1 ∨ (g < a1 ∧ s - a2 - l < a3)) := by
  have hq0 : 0 ≤ (s - a2) / a3 := Int.ediv_nonneg (by omega) (by omega)
  have hq : (s - a2) / a3 * a3 ≤ s - a2 := Int.ediv_mul_le _ (by omega)
  have hr : s - a2 < ((s - a2) / a3 + 1) * a3 := Int.lt_ediv_add_one_mul_self _ h3
  generalize hQ : (s - a2) / a3 = q at *
  have key : ∀ g, fitsOf s a1 a2 a3 = g → 0 ≤ g → g ≤ q → (g = a1 ∨ (g < a1 ∧ g = q)) →
      ∃ g l, fitsOf s a1 a2 a3 = g ∧ mulHi g a3 = 0 ∧ mulLo g a3 = l ∧ 0 ≤ g ∧ 0 ≤ l ∧ l ≤ s - a2 ∧ (g = a1 ∨ (g < a1 ∧ s - a2 - l < a3)) := by
    intro g hg g0 gq hor
    have hl : g * a3 ≤ s - a2 := Int.le_trans (Int.mul_le_mul_of_nonneg_right gq (by omega)) hq
    have hl0 : 0 ≤ g * a3 := Int.mul_nonneg g0 (by omega)
    refine ⟨g, g * a3, hg, ?_, ?_, g0, hl0, hl, ?_⟩
    · unfold mulHi; omega
    · unfold mulLo; omega
    · rcases hor with h | ⟨h, e⟩
      · exact .inl h
      · subst e
        rw [Int.add_mul] at hr
        exact .inr ⟨h, by omega⟩
  by_cases hc : a1 ≤ q
  · exact key a1 (by simp [fitsOf, h1, hQ, hc]) b1 hc (.inl rfl)
  · exact key q (by simp [fitsOf, h1, hQ, hc]; omega) hq0 (by omega) (.inr ⟨by omega, rfl⟩)

set_option maxHeartbeats 1000000 in
theorem exact_walk (a0 : Int) (a1 : Int) (a2 : Int) (a3 : Int) (w1 : (Lit.int .u64 a1).wf = true) (w2 : (Lit.int .u64 a2).wf = true) (w3 : (Lit.int .u64 a3).wf = true) (w : World) :
    Calls Yba.prog 4 #[.int .i64 a0, .int .u64 a1, .int .u64 a2, .int .u64 a3] w fun e w' => e = .returned (.bool true) ∧ Grown w w' := by
  obtain ⟨b1, b1'⟩ := bounds_u64 w1
  obtain ⟨b2, b2'⟩ := bounds_u64 w2
  obtain ⟨b3, b3'⟩ := bounds_u64 w3
  obtain ⟨s, hs⟩ : ∃ s, IntKind.u64.wrap a0 = s := ⟨_, rfl⟩
  have s0 : 0 ≤ s := by rw [← hs, IntKind.wrap_u64]; omega
  have s1 : s ≤ 18446744073709551615 := by rw [← hs, IntKind.wrap_u64]; omega
  clear w1 w2 w3
  by_cases h1 : s < a2
  · have hf : fitsOf s a1 a2 a3 = 0 := by simp [fitsOf, h1]
    go_enter Yba.func4, Yba.ntmps4
    go_wp2_with fail
    refine (fits_any _ 0 a0 s a1 a2 a3 _ hs s0 s1 b2 b2' b3 b3' ?_).mono ?_
    · simp [go_sem]
    rintro e w' ⟨rfl, rfl⟩
    rw [hf]
    go_wp2
    go_ret
    exact ⟨rfl, (Grown.refl _).alloc _ _⟩
  by_cases h3 : a3 = 0
  · have hf : fitsOf s a1 a2 a3 = a1 := by simp [fitsOf, h1, h3]
    subst h3
    go_enter Yba.func4, Yba.ntmps4
    go_wp2_with fail
    refine (fits_any _ 0 a0 s a1 a2 0 _ hs s0 s1 b2 b2' b3 b3' ?_).mono ?_
    · simp [go_sem]
    rintro e w' ⟨rfl, rfl⟩
    rw [hf]
    go_wp2
    go_ret
    exact ⟨by simp, (Grown.refl _).alloc _ _⟩
  have hz : (a3 == 0) = false := by simp [h3]
  have hp : 0 < a3 := by omega
  obtain ⟨g, l, hf, hH, hL, g0, l0, l1, hor⟩ := fits_exact s a1 a2 a3 h1 hp b1 s1 b2
  rcases hor with rfl | ⟨hlt, hrm⟩
  · go_enter Yba.func4, Yba.ntmps4
    go_wp2_with fail
    refine (fits_any _ 0 a0 s g a2 a3 _ hs s0 s1 b2 b2' b3 b3' ?_).mono ?_
    · simp [go_sem]
    rintro e w' ⟨rfl, rfl⟩
    rw [hf]
    go_wp2_with fail
    refine (mul64_any g a3 b1 b1' b3 b3' _).mono ?_
    rintro e w' ⟨rfl, rfl⟩
    rw [hH, hL]
    go_wp2
    go_ret
    exact ⟨by simp, (Grown.refl _).alloc _ _⟩
  · have hne : (g == a1) = false := by simp; omega
    go_enter Yba.func4, Yba.ntmps4
    go_wp2_with fail
    refine (fits_any _ 0 a0 s a1 a2 a3 _ hs s0 s1 b2 b2' b3 b3' ?_).mono ?_
    · simp [go_sem]
    rintro e w' ⟨rfl, rfl⟩
    rw [hf]
    go_wp2_with fail
    refine (mul64_any g a3 g0 (by omega) b3 b3' _).mono ?_
    rintro e w' ⟨rfl, rfl⟩
    rw [hH, hL]
    go_wp2
    go_ret
    exact ⟨by simp, (Grown.refl _).alloc _ _⟩
end Go.Proofs.Ybulkbuxi
