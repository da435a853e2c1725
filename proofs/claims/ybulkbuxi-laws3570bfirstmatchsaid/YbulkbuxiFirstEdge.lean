/-
  The walk of LawS3570BFirstMatch at its edges: more than 1024 texts; no text at all.
-/
import Derived.Test.YbulkbuxiFind
import Derived.Test.YbulkbuxiMid
namespace Go.Proofs.Ybulkbuxi
open Go.RowKit

theorem first_long (a : Option Addr) (n cap : Nat) (q : ByteArray) (pk : Nat) (w : World) (hn : 1024 < n) :
    Calls Yba.prog 3 #[.slice a n cap, .string q, .int .u8 pk] w fun e w' => e = .returned (.bool true) ∧ Below w.heap.size w w' := by
  go_enter Yba.func3, Yba.ntmps3
  go_wp2_with fail
  go_ret
  exact ⟨rfl, Below.refl _ _⟩

theorem info35' : (Yba.prog.info? 35).map (fun i => (i.zero, i.size, i.bytes)) = some (some (.agg #[.string ⟨#[]⟩, .int .u64 0, .int .u64 0, .bool false, .bool false]), 5, 40) := by kernel_rfl

set_option maxHeartbeats 4000000 in
set_option maxRecDepth 100000 in
theorem first_none (a : Option Addr) (cap : Nat) (q : ByteArray) (pk : Nat) (w : World) (p1 : pk ≤ 255) :
    Calls Yba.prog 3 #[.slice a 0 cap, .string q, .int .u8 pk] w fun e w' => e = .returned (.bool true) ∧ Below w.heap.size w w' := by
  obtain ⟨i0, hi, hz0, hz1, hz2⟩ := info_parts info35'
  have hmk := fun w => run_make (P := Yba.prog) w 24 35 i0 _ Yba.underlying24 hi hz0 .i64 .i64 0 0 (by omega) (by omega) (by rw [hz2]; omega) (by omega)
  simp only [hz1, Int.toNat_zero, Nat.zero_mul] at hmk
  have pj : ∀ b : Bool, ((pk : Int) % 2 == 0) = b → Calls Yba.prog 3 #[.slice a 0 cap, .string q, .int .u8 pk] w fun e w' => e = .returned (.bool true) ∧ Below w.heap.size w w' := by
    intro b hb
    cases b
    all_goals
      go_enter Yba.func3, Yba.ntmps3
      go_wp2_with fail
      refine wp_loop_rounds 1 ?_
      rw [rounds_succ]
      go_wp2_with fail
      refine (find_any w.heap.size (w.heap.size + 1) 0 (fun _ => ByteArray.empty) q _ (by omega) (mid_start w 0 (fun _ => ByteArray.empty) _ _ _ _ rfl).m (fun i hi => absurd hi (Nat.not_lt_zero i))).mono ?_
      rintro e w' ⟨hp, rfl⟩
      rcases hp with ⟨j, hj, -⟩ | ⟨-, rfl⟩
      · exact absurd hj (Nat.not_lt_zero j)
      go_wp2_with fail
      refine wp_loop_rounds 1 ?_
      rw [rounds_succ]
      go_wp2_with fail
      refine wp_loop_rounds 1 ?_
      rw [rounds_succ]
      go_wp2_with fail
      go_ret
      exact ⟨by simp, ((Below.refl _ _).alloc (Nat.le_refl _) _).alloc (by simp) _⟩
  exact pj _ rfl
end Go.Proofs.Ybulkbuxi
