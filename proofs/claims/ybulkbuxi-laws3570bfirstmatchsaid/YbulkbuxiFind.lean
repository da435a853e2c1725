/-
  (*valueMap).find: it only reads; it answers the address of the first maplet whose text is the query, or nil.
-/
import Derived.Test.YbulkbuxiRows
import Derived.WalkKit
import Derived.WalkSpells
namespace Go.Proofs.Ybulkbuxi
open Go.RowKit

/-- What find answers over the texts T 0 .. T (n-1) that lie, five cells a maplet, in block g. -/
def FindPost (T : Nat → ByteArray) (q : ByteArray) (n g : Nat) (e : Ending) : Prop :=
  (∃ j, j < n ∧ ((T j).toList == q.toList) = true ∧ (∀ i, i < j → ((T i).toList == q.toList) = false) ∧ e = .returned (.pointer (some ⟨g, j * 5, none⟩))) ∨
    ((∀ i, i < n → ((T i).toList == q.toList) = false) ∧ e = .returned (.pointer none))

set_option maxHeartbeats 1000000 in
theorem find_any (b g n : Nat) (T : Nat → ByteArray) (q : ByteArray) (w : World) (hn : n ≤ 1024)
    (hm : w.cell? ⟨b, 1, none⟩ = some (.slice (some ⟨g, 0, none⟩) n n)) (hT : ∀ i, i < n → w.cell? ⟨g, i * 5, none⟩ = some (.string (T i))) :
    Calls Yba.prog 6 #[.pointer (some ⟨b, 0, none⟩), .string q] w fun e w' =>
      FindPost T q n g e ∧ w' = w := by
  go_enter Yba.func6, Yba.ntmps6
  go_wp2_with fail
  go_loop [5, 11] (fun _ i => ∃ k : Nat, k ≤ n ∧ i = .int .i64 k ∧ Hid (∀ i, i < k → ((T i).toList == q.toList) = false)) (fun _ i => n - (intOf i).toNat)
  case atStart => exact ⟨0, Nat.zero_le _, rfl, fun i hi => absurd hi (Nat.not_lt_zero i)⟩
  case round =>
    obtain ⟨k, hk, rfl, hno⟩ := hrel
    by_cases hlt : k < n
    · have hc := hT k hlt
      by_cases heq : ((T k).toList == q.toList) = true
      · go_wp2_with fail
        go_ret
        exact ⟨.inl ⟨k, hlt, heq, hno.out, rfl⟩, rfl⟩
      · have heq' : ((T k).toList == q.toList) = false := by simpa using heq
        clear heq
        go_wp2_with fail
        go_round
        case rel =>
          refine ⟨k + 1, by omega, by go_num, fun i hi => ?_⟩
          rcases Nat.lt_succ_iff_lt_or_eq.1 hi with h | rfl
          · exact hno.out i h
          · exact heq'
        case measure => simp [intOf]; omega
    · obtain rfl : k = n := by omega
      go_wp2_with fail
      go_ret
      exact ⟨.inr ⟨hno.out, rfl⟩, rfl⟩
end Go.Proofs.Ybulkbuxi
