/-
  The walk of LawS3570CCount: after k rounds the count is what fits would answer for k elements.
-/
import Derived.Test.YbulkbuxiFits
import Derived.OpenShut
namespace Go.Proofs.Ybulkbuxi
open Go.RowKit

theorem fits_zero (s off size : Int) (h : ¬ s < off) (z : 0 ≤ size) : fitsOf s 0 off size = 0 := by
  have hq0 : 0 ≤ (s - off) / size := Int.ediv_nonneg (by omega) z
  unfold fitsOf
  rw [if_neg h]
  split <;> rfl

/-- One element more: it fits, or it does not. -/
theorem fits_step (s off size k : Int) (h : ¬ s < off) (z : 0 ≤ size) (k0 : 0 ≤ k) (s1 : s ≤ 18446744073709551615) (o0 : 0 ≤ off) :
    (mulHi (k + 1) size = 0 ∧ mulLo (k + 1) size ≤ s - off ∧ fitsOf s (k + 1) off size = fitsOf s k off size + 1) ∨
    (mulHi (k + 1) size ≠ 0 ∧ fitsOf s (k + 1) off size = fitsOf s k off size) ∨
    (mulHi (k + 1) size = 0 ∧ s - off < mulLo (k + 1) size ∧ fitsOf s (k + 1) off size = fitsOf s k off size) := by
  by_cases hz : size = 0
  · subst hz
    exact .inl ⟨by simp [mulHi], by simp [mulLo]; omega, by simp [fitsOf, h]⟩
  have hp : 0 < size := by omega
  have hiff : k + 1 ≤ (s - off) / size ↔ (k + 1) * size ≤ s - off := Int.le_ediv_iff_mul_le hp
  have h0 : 0 ≤ (k + 1) * size := Int.mul_nonneg (by omega) z
  by_cases hc : (k + 1) * size ≤ s - off
  · have hq := hiff.2 hc
    refine .inl ⟨by unfold mulHi; omega, by unfold mulLo; omega, ?_⟩
    simp [fitsOf, h, hz, hq, show k ≤ (s - off) / size by omega]
  · have hq : ¬ k + 1 ≤ (s - off) / size := fun x => hc (hiff.1 x)
    have hsame : fitsOf s (k + 1) off size = fitsOf s k off size := by
      simp only [fitsOf, h, hz, hq, if_false]
      split <;> omega
    by_cases hh : mulHi (k + 1) size = 0
    · refine .inr (.inr ⟨hh, ?_, hsame⟩)
      unfold mulHi at hh
      unfold mulLo
      omega
    · exact .inr (.inl ⟨hh, hsame⟩)

theorem fits_le (s off size : Int) (k : Nat) (h : ¬ s < off) (z : 0 ≤ size) : 0 ≤ fitsOf s k off size ∧ fitsOf s k off size ≤ k := by
  have hq0 : 0 ≤ (s - off) / size := Int.ediv_nonneg (by omega) z
  unfold fitsOf
  rw [if_neg h]
  split
  · omega
  split <;> omega

theorem mul_bd (x y : Int) (x0 : 0 ≤ x) (y0 : 0 ≤ y) : 0 ≤ mulHi x y ∧ 0 ≤ mulLo x y ∧ mulLo x y ≤ 18446744073709551615 := by
  have := Int.mul_nonneg x0 y0
  unfold mulHi mulLo
  omega

set_option maxHeartbeats 1000000 in
theorem count_walk (a0 : Int) (a1 : Int) (a2 : Int) (a3 : Int) (w1 : (Lit.int .u64 a1).wf = true) (w2 : (Lit.int .u64 a2).wf = true) (w3 : (Lit.int .u64 a3).wf = true) (w : World) :
    Calls Yba.prog 5 #[.int .i64 a0, .int .u64 a1, .int .u64 a2, .int .u64 a3] w fun e w' => e = .returned (.bool true) ∧ Grown w w' := by
  obtain ⟨b1, b1'⟩ := bounds_u64 w1
  obtain ⟨b2, b2'⟩ := bounds_u64 w2
  obtain ⟨b3, b3'⟩ := bounds_u64 w3
  obtain ⟨s, hs⟩ : ∃ s, IntKind.u64.wrap a0 = s := ⟨_, rfl⟩
  have s0 : 0 ≤ s := by rw [← hs, IntKind.wrap_u64]; omega
  have s1 : s ≤ 18446744073709551615 := by rw [← hs, IntKind.wrap_u64]; omega
  clear w1 w2 w3
  by_cases hbig : 1024 < a1
  · go_enter Yba.func5, Yba.ntmps5
    go_wp2_with fail
    go_ret
    exact ⟨rfl, Grown.refl _⟩
  obtain ⟨n, rfl⟩ := Int.eq_ofNat_of_zero_le b1
  by_cases h1 : s < a2
  · have hf : fitsOf s n a2 a3 = 0 := by simp [fitsOf, h1]
    go_enter Yba.func5, Yba.ntmps5
    go_wp2_with fail
    refine (fits_any _ 0 a0 s n a2 a3 _ hs s0 s1 b2 b2' b3 b3' ?_).mono ?_
    · simp [go_sem]
    rintro e w' ⟨rfl, rfl⟩
    rw [hf]
    go_wp2_with fail
    go_loop [12, 13] (fun t i => t = .int .u64 0 ∧ i = .int .u64 0) (fun _ _ => 0)
    case atStart => exact ⟨rfl, rfl⟩
    case round =>
      obtain ⟨rfl, rfl⟩ := hrel
      go_wp2_with fail
      all_goals
        go_ret
        exact ⟨by simp, (Grown.refl _).alloc _ _⟩
  · have hfz := fits_zero s a2 a3 h1 b3
    obtain ⟨g, hg⟩ : ∃ g, fitsOf s n a2 a3 = g := ⟨_, rfl⟩
    have HG : Hid (fitsOf s n a2 a3 = g) := hg
    go_enter Yba.func5, Yba.ntmps5
    go_wp2_with fail
    refine (fits_any _ 0 a0 s n a2 a3 _ hs s0 s1 b2 b2' b3 b3' ?_).mono ?_
    · simp [go_sem]
    rintro e w' ⟨rfl, rfl⟩
    rw [hg]
    clear hg
    go_wp2_with fail
    go_loop [12, 13, 14, 15] (fun t i _ _ => ∃ k : Nat, k ≤ n ∧ i = .int .u64 k ∧ t = .int .u64 (fitsOf s k a2 a3)) (fun _ i _ _ => n - (intOf i).toNat)
    case atStart => exact ⟨0, Nat.zero_le _, rfl, by show _ = Value.int _ _; congr 1; exact hfz.symm⟩
    case round =>
      obtain ⟨k, hk, rfl, rfl⟩ := hrel
      clear hfz
      have hle := fits_le s a2 a3 k (by omega) b3
      by_cases hlt : k < n
      · have hst := fits_step s a2 a3 k (by omega) b3 (by omega) s1 b2
        have hmb := mul_bd ((k : Int) + 1) a3 (by omega) b3
        have hcast : ((k + 1 : Nat) : Int) = (k : Int) + 1 := by omega
        generalize hF : fitsOf s k a2 a3 = f at *
        obtain ⟨f', hF'⟩ : ∃ f', fitsOf s ((k : Int) + 1) a2 a3 = f' := ⟨_, rfl⟩
        rw [hF'] at hst
        have HF' : Hid (fitsOf s ((k : Int) + 1) a2 a3 = f') := hF'
        have HC : Hid (((k + 1 : Nat) : Int) = (k : Int) + 1) := hcast
        clear hF hF' hcast
        generalize hH : mulHi ((k : Int) + 1) a3 = hh at *
        generalize hL : mulLo ((k : Int) + 1) a3 = ll at *
        rcases hst with ⟨rfl, h5, rfl⟩ | ⟨h4, rfl⟩ | ⟨rfl, h5, rfl⟩
        · go_wp2_with fail
          refine (mul64_any ((k : Int) + 1) a3 (by omega) (by omega) b3 b3' _).mono ?_
          rintro e w' ⟨rfl, rfl⟩
          rw [hH, hL]
          go_wp2_with fail
          go_round
          case rel => exact ⟨k + 1, by omega, by go_num, by rw [HC.out, HF'.out]⟩
          case measure => simp [intOf]; omega
        · have h4' : (hh == 0) = false := by simp [h4]
          go_wp2_with fail
          refine (mul64_any ((k : Int) + 1) a3 (by omega) (by omega) b3 b3' _).mono ?_
          rintro e w' ⟨rfl, rfl⟩
          rw [hH, hL]
          go_wp2_with fail
          go_round
          case rel => exact ⟨k + 1, by omega, by go_num, by rw [HC.out, HF'.out]⟩
          case measure => simp [intOf]; omega
        · go_wp2_with fail
          refine (mul64_any ((k : Int) + 1) a3 (by omega) (by omega) b3 b3' _).mono ?_
          rintro e w' ⟨rfl, rfl⟩
          rw [hH, hL]
          go_wp2_with fail
          go_round
          case rel => exact ⟨k + 1, by omega, by go_num, by rw [HC.out, HF'.out]⟩
          case measure => simp [intOf]; omega
      · obtain rfl : k = n := by omega
        rw [HG.out]
        clear hle
        go_wp2_with fail
        go_ret
        exact ⟨by simp, (Grown.refl _).alloc _ _⟩
end Go.Proofs.Ybulkbuxi
