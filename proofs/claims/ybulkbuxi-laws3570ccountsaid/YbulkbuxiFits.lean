/-
  (*window).fits (holds entered in place) as a plain function of integers.
-/
import Derived.Test.YbulkbuxiRows
import Derived.WalkKit
import Derived.WalkSpells
import Derived.RowKit3
import Derived.Lib.Mul64
import Derived.Laws.Bits64b
namespace Go.Proofs.Ybulkbuxi
open Go.RowKit

/-- What fits answers: s is the data's size as a uint64. -/
def fitsOf (s count off size : Int) : Int :=
  if s < off then 0 else if size = 0 then count else if count ≤ (s - off) / size then count else (s - off) / size

set_option maxHeartbeats 400000 in
theorem fits_any (b o : Nat) (d s count off size : Int) (w : World) (hds : IntKind.u64.wrap d = s) (s0 : 0 ≤ s) (s1 : s ≤ 18446744073709551615)
    (o0 : 0 ≤ off) (o1 : off ≤ 18446744073709551615) (z0 : 0 ≤ size) (z1 : size ≤ 18446744073709551615)
    (hcell : w.cell? ⟨b, o + 1, none⟩ = some (.int .i64 d)) :
    Calls Yba.prog 7 #[.pointer (some ⟨b, o, none⟩), .int .u64 count, .int .u64 off, .int .u64 size] w fun e w' => e = .returned (.int .u64 (fitsOf s count off size)) ∧ w' = w := by
  by_cases h1 : s < off
  · have H : Hid (fitsOf s count off size = 0) := by show _ = _; simp [fitsOf, h1]
    go_enter Yba.func7, Yba.ntmps7
    go_wp2
    go_ret
    exact ⟨by rw [H.out]; rfl, rfl⟩
  by_cases h2 : size = 0
  · have H : Hid (fitsOf s count off size = count) := by show _ = _; simp [fitsOf, h1, h2]
    have hz : (size == 0) = true := by simp [h2]
    clear h2
    go_enter Yba.func7, Yba.ntmps7
    go_wp2
    go_ret
    exact ⟨by rw [H.out]; rfl, rfl⟩
  have hz : (size == 0) = false := by simp [h2]
  have hpos : 1 ≤ size := by omega
  by_cases h3 : count ≤ (s - off) / size
  · have H : Hid (fitsOf s count off size = count) := by show _ = _; simp [fitsOf, h1, h2, h3]
    go_enter Yba.func7, Yba.ntmps7
    go_wp2
    go_ret
    exact ⟨by rw [H.out]; rfl, rfl⟩
  · have H : Hid (fitsOf s count off size = (s - off) / size) := by show _ = _; simp [fitsOf, h1, h2, h3]
    go_enter Yba.func7, Yba.ntmps7
    go_wp2
    go_ret
    exact ⟨by rw [H.out]; rfl, rfl⟩

/-! ### math/bits.Mul64: the library's pure Go text, walked over this dump; the arithmetic under it is the kit's (Derived/Lib/Mul64.lean) -/
theorem m_mask (a : Nat) (ha : a < 18446744073709551616) : bits .and .u64 (a : Int) 4294967295 = ((a % 4294967296 : Nat) : Int) := by
  have h := bits_and_u64_nat a 4294967295 ha (by omega)
  have e : a &&& 4294967295 = a % 4294967296 := Nat.and_two_pow_sub_one_eq_mod a 32
  rw [e] at h
  exact h
theorem m_div (a : Nat) : (a : Int) / 4294967296 = ((a / 4294967296 : Nat) : Int) := by omega
theorem m_mul (a b : Nat) : (a : Int) * (b : Int) = ((a * b : Nat) : Int) := (Int.natCast_mul a b).symm
theorem m_add (a b : Nat) : (a : Int) + (b : Int) = ((a + b : Nat) : Int) := (Int.natCast_add a b).symm
theorem m_wrap (a : Nat) (ha : a < 18446744073709551616) : IntKind.u64.wrap (a : Int) = (a : Int) := by rw [IntKind.wrap_u64]; omega
theorem m_wrapM (a : Nat) : IntKind.u64.wrap (a : Int) = ((a % 18446744073709551616 : Nat) : Int) := by rw [IntKind.wrap_u64]; omega

set_option maxHeartbeats 1000000 in
theorem mul64_nat (x y : Nat) (hx : x < 18446744073709551616) (hy : y < 18446744073709551616) (w : World) :
    Calls Yba.prog 8 #[.int .u64 x, .int .u64 y] w fun e w' => e = .returned (.tuple #[.int .u64 ((x * y / 18446744073709551616 : Nat) : Int), .int .u64 ((x * y % 18446744073709551616 : Nat) : Int)]) ∧ w' = w := by
  obtain ⟨bd, bt, bw, hhi⟩ := Lib.mul64_hi x y hx hy
  have ba := Lib.half_mul_le (a := x / 4294967296) (b := y / 4294967296) (by omega) (by omega)
  have bb := Lib.half_mul_le (a := x / 4294967296) (b := y % 4294967296) (by omega) (by omega)
  have bc := Lib.half_mul_le (a := x % 4294967296) (b := y / 4294967296) (by omega) (by omega)
  have ba' : x / 4294967296 * (y / 4294967296) < 18446744073709551616 := by omega
  have bb' : x / 4294967296 * (y % 4294967296) < 18446744073709551616 := by omega
  have bc' : x % 4294967296 * (y / 4294967296) < 18446744073709551616 := by omega
  have bh1 : x / 4294967296 * (y / 4294967296) + (x / 4294967296 * (y % 4294967296) + x % 4294967296 * (y % 4294967296) / 4294967296) / 4294967296 < 18446744073709551616 := by omega
  have bh : x / 4294967296 * (y / 4294967296) + (x / 4294967296 * (y % 4294967296) + x % 4294967296 * (y % 4294967296) / 4294967296) / 4294967296 + ((x / 4294967296 * (y % 4294967296) + x % 4294967296 * (y % 4294967296) / 4294967296) % 4294967296 + x % 4294967296 * (y / 4294967296)) / 4294967296 < 18446744073709551616 := by omega
  go_enter Yba.func8, Yba.ntmps8
  go_wp2
  simp only [m_mask x hx, m_mask y hy, m_div, m_mul, m_add, m_wrap _ bd, m_wrap _ bb', m_wrap _ bt, m_mask _ bt, m_wrap _ bc', m_wrap _ bw, m_wrap _ ba', m_wrap _ bh1, m_wrap _ bh, m_wrapM (x * y)]
  rw [hhi]
  go_ret2
  exact ⟨rfl, rfl⟩

/-- The two halves of the product, under names. -/
def mulHi (x y : Int) : Int := x * y / 18446744073709551616
def mulLo (x y : Int) : Int := x * y % 18446744073709551616
theorem mul64_any (x y : Int) (x0 : 0 ≤ x) (x1 : x ≤ 18446744073709551615) (y0 : 0 ≤ y) (y1 : y ≤ 18446744073709551615) (w : World) :
    Calls Yba.prog 8 #[.int .u64 x, .int .u64 y] w fun e w' => e = .returned (.tuple #[.int .u64 (mulHi x y), .int .u64 (mulLo x y)]) ∧ w' = w := by
  obtain ⟨x, rfl⟩ := Int.eq_ofNat_of_zero_le x0
  obtain ⟨y, rfl⟩ := Int.eq_ofNat_of_zero_le y0
  refine (mul64_nat x y (by omega) (by omega) w).mono ?_
  rintro e w' ⟨rfl, rfl⟩
  refine ⟨?_, rfl⟩
  simp only [mulHi, mulLo, ← Int.natCast_mul]
  rfl
end Go.Proofs.Ybulkbuxi
