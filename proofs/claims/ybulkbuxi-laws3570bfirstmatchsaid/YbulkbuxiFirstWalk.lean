/-
  The walk of LawS3570BFirstMatch over a slice that is not empty: the query handed in, or one of the texts.
-/
import Derived.Test.YbulkbuxiFind
import Derived.Test.YbulkbuxiMid
import Derived.BigQuiet
import Derived.Deep.QuietTactic
import Derived.RegionTactic
import Derived.LaidEqlPtr
import Derived.WalkSmall
namespace Go.Proofs.Ybulkbuxi
open Go.RowKit

theorem info35 : (Yba.prog.info? 35).map (fun i => (i.zero, i.size, i.bytes)) = some (some (.agg #[.string ⟨#[]⟩, .int .u64 0, .int .u64 0, .bool false, .bool false]), 5, 40) := by kernel_rfl

set_option maxHeartbeats 4000000 in
set_option maxRecDepth 100000 in
theorem first_walk_odd (b off n cap : Nat) (T : Nat → ByteArray) (q0 q : ByteArray) (pk : Nat) (w : World) (hn : n ≤ 1024) (h0 : 0 < n) (p1 : pk ≤ 255)
    (hc : ∀ i, i < n → w.cell? ⟨b, off + i, none⟩ = some (.string (T i))) (hodd : ((pk : Int) % 2 == 0) = false) (hQ : q = q0) :
    Calls Yba.prog 3 #[.slice (some ⟨b, off, none⟩) n cap, .string q0, .int .u8 pk] w fun e w' => e = .returned (.bool true) ∧ Below w.heap.size w w' := by
  obtain ⟨i0, hi, hz0, hz1, hz2⟩ := info_parts info35
  have hmk := fun w => run_make (P := Yba.prog) w 24 35 i0 _ Yba.underlying24 hi hz0 .i64 .i64 n n (by omega) (by omega) (by rw [hz2]; omega) (by omega)
  simp only [hz1, Int.toNat_natCast] at hmk
  have hpe := fun w a => run_eql_ptr_same (P := Yba.prog) w a Yba.underlying36 hi
  have hb : b < w.heap.size := World.block_lt_of_cell? w _ (hc 0 h0)
  subst hQ
  have HC : Hid (∀ i, i < n → w.cell? ⟨b, off + i, none⟩ = some (.string (T i))) := hc
  clear hc
  go_enter Yba.func3, Yba.ntmps3
  go_wp2_with fail
  clear hmk hi hz0 hz1 hz2
  go_loopw [9] (fun i wr => ∃ k : Nat, k ≤ n ∧ i = .int .i64 k ∧ Mid w wr n T k) (fun i _ => n - (intOf i).toNat)
  case atStart => exact ⟨0, Nat.zero_le _, rfl, mid_start w n T _ _ _ _ rfl⟩
  case round =>
    obtain ⟨k, hk, rfl, hmid⟩ := hrel
    by_cases hlt : k < n
    · have hm := hmid.m
      have hck := (hmid.below.cell (p := ⟨b, off + k, none⟩) hb).trans (HC.out k hlt)
      obtain ⟨⟨v0, e0⟩, f0⟩ := hmid.there (k * 5) (by omega)
      obtain ⟨⟨v1, e1⟩, f1⟩ := hmid.there (k * 5 + 1) (by omega)
      obtain ⟨⟨v2, e2⟩, f2⟩ := hmid.there (k * 5 + 2) (by omega)
      obtain ⟨⟨v3, e3⟩, f3⟩ := hmid.there (k * 5 + 3) (by omega)
      obtain ⟨⟨v4, e4⟩, f4⟩ := hmid.there (k * 5 + 4) (by omega)
      go_wp2_with fail
      go_region
      go_wp2_with fail
      go_roundw
      case rel => exact ⟨k + 1, by omega, by go_num, mid_step hmid hlt⟩
      case measure => simp [intOf]; omega
    · obtain rfl : k = n := by omega
      have hm := hmid.m
      have hcw : ∀ i, i < k → wr.cell? ⟨b, off + i, none⟩ = some (.string (T i)) := fun i hi => (hmid.below.cell (p := ⟨b, off + i, none⟩) hb).trans (HC.out i hi)
      have hbel := hmid.below
      have htx := hmid.text
      have hvl := hmid.value
      have hmkk := hmid.mask
      clear hmid HC
      go_wp2_with fail
      refine (find_any w.heap.size (w.heap.size + 1) k T q wr hn hm htx).mono ?_
      rintro e w' ⟨hp, rfl⟩
      rcases hp with ⟨j, hj, hE, hno, rfl⟩ | ⟨hno, rfl⟩
      · have HNO : Hid (∀ i, i < j → ((T i).toList == q.toList) = false) := hno
        clear hno
        go_wp2_with fail
        go_loop [11, 12] (fun t i => ∃ m : Nat, m ≤ j ∧ i = .int .i64 m ∧ t = .int .i64 (-1)) (fun _ i => k - (intOf i).toNat)
        case atStart => exact ⟨0, Nat.zero_le _, rfl, rfl⟩
        case round =>
          obtain ⟨m, hmj, rfl, rfl⟩ := hrel
          have hcm := hcw m (by omega)
          have hmk' : m < k := by omega
          by_cases hej : m = j
          · subst hej
            go_wp2_with fail
            go_loopw [13] (fun i wx => ∃ l : Nat, l ≤ k ∧ i = .int .i64 l ∧ ∃ d, wx = w'.drewN d) (fun i _ => k - (intOf i).toNat)
            case atStart => exact ⟨0, Nat.zero_le _, rfl, 0, rfl⟩
            case round =>
              obtain ⟨l, hl, rfl, d, rfl⟩ := hrel
              by_cases hll : l < k
              · have c1 := hcw l hll
                have c2 := htx l hll
                have c3 := hvl l hll
                have c4 := hmkk l hll
                go_wp2_with fail
                go_quiet (fail)
                go_wp2_with fail
                go_roundw
                case rel => exact ⟨l + 1, by omega, by go_num, _, rfl⟩
                case measure => simp [intOf]; omega
              · go_wp2_with fail
                go_ret
                exact ⟨by simp, below_drewN hbel _⟩
          · have hEm := HNO.out m (by omega)
            go_wp2_with fail
            go_round
            case rel => exact ⟨m + 1, by omega, by go_num, rfl⟩
            case measure => simp [intOf]; omega
      · have HNO : Hid (∀ i, i < k → ((T i).toList == q.toList) = false) := hno
        clear hno
        go_wp2_with fail
        go_loop [11, 12] (fun t i => ∃ m : Nat, m ≤ k ∧ i = .int .i64 m ∧ t = .int .i64 (-1)) (fun _ i => k - (intOf i).toNat)
        case atStart => exact ⟨0, Nat.zero_le _, rfl, rfl⟩
        case round =>
          obtain ⟨m, hmj, rfl, rfl⟩ := hrel
          by_cases hmk' : m < k
          · have hcm := hcw m hmk'
            have hEm := HNO.out m hmk'
            go_wp2_with fail
            go_round
            case rel => exact ⟨m + 1, by omega, by go_num, rfl⟩
            case measure => simp [intOf]; omega
          · go_wp2_with fail
            go_loopw [13] (fun i wx => ∃ l : Nat, l ≤ k ∧ i = .int .i64 l ∧ ∃ d, wx = w'.drewN d) (fun i _ => k - (intOf i).toNat)
            case atStart => exact ⟨0, Nat.zero_le _, rfl, 0, rfl⟩
            case round =>
              obtain ⟨l, hl, rfl, d, rfl⟩ := hrel
              by_cases hll : l < k
              · have c1 := hcw l hll
                have c2 := htx l hll
                have c3 := hvl l hll
                have c4 := hmkk l hll
                go_wp2_with fail
                go_quiet (fail)
                go_wp2_with fail
                go_roundw
                case rel => exact ⟨l + 1, by omega, by go_num, _, rfl⟩
                case measure => simp [intOf]; omega
              · go_wp2_with fail
                go_ret
                exact ⟨by simp, below_drewN hbel _⟩

set_option maxHeartbeats 4000000 in
set_option maxRecDepth 100000 in
theorem first_walk_even (b off n cap : Nat) (T : Nat → ByteArray) (q0 q : ByteArray) (pk : Nat) (w : World) (hn : n ≤ 1024) (h0 : 0 < n) (p1 : pk ≤ 255)
    (hc : ∀ i, i < n → w.cell? ⟨b, off + i, none⟩ = some (.string (T i))) (hodd : ((pk : Int) % 2 == 0) = true) (hQ : q = T (pk / 2 % n)) :
    Calls Yba.prog 3 #[.slice (some ⟨b, off, none⟩) n cap, .string q0, .int .u8 pk] w fun e w' => e = .returned (.bool true) ∧ Below w.heap.size w w' := by
  obtain ⟨i0, hi, hz0, hz1, hz2⟩ := info_parts info35
  have hmk := fun w => run_make (P := Yba.prog) w 24 35 i0 _ Yba.underlying24 hi hz0 .i64 .i64 n n (by omega) (by omega) (by rw [hz2]; omega) (by omega)
  simp only [hz1, Int.toNat_natCast] at hmk
  have hpe := fun w a => run_eql_ptr_same (P := Yba.prog) w a Yba.underlying36 hi
  have hb : b < w.heap.size := World.block_lt_of_cell? w _ (hc 0 h0)
  have hix : pk / 2 % n < n := Nat.mod_lt _ h0
  have hcq : w.cell? ⟨b, off + pk / 2 % n, none⟩ = some (.string q) := by rw [hQ]; exact hc _ hix
  have hI0 : 0 ≤ (pk : Int) / 2 % (n : Int) := Int.emod_nonneg _ (by omega)
  have hI1 : (pk : Int) / 2 % (n : Int) < (n : Int) := Int.emod_lt_of_pos _ (by omega)
  clear hQ
  have HC : Hid (∀ i, i < n → w.cell? ⟨b, off + i, none⟩ = some (.string (T i))) := hc
  clear hc
  go_enter Yba.func3, Yba.ntmps3
  go_wp2_with fail
  clear hmk hi hz0 hz1 hz2 hix hcq hI0 hI1
  go_loopw [9] (fun i wr => ∃ k : Nat, k ≤ n ∧ i = .int .i64 k ∧ Mid w wr n T k) (fun i _ => n - (intOf i).toNat)
  case atStart => exact ⟨0, Nat.zero_le _, rfl, mid_start w n T _ _ _ _ rfl⟩
  case round =>
    obtain ⟨k, hk, rfl, hmid⟩ := hrel
    by_cases hlt : k < n
    · have hm := hmid.m
      have hck := (hmid.below.cell (p := ⟨b, off + k, none⟩) hb).trans (HC.out k hlt)
      obtain ⟨⟨v0, e0⟩, f0⟩ := hmid.there (k * 5) (by omega)
      obtain ⟨⟨v1, e1⟩, f1⟩ := hmid.there (k * 5 + 1) (by omega)
      obtain ⟨⟨v2, e2⟩, f2⟩ := hmid.there (k * 5 + 2) (by omega)
      obtain ⟨⟨v3, e3⟩, f3⟩ := hmid.there (k * 5 + 3) (by omega)
      obtain ⟨⟨v4, e4⟩, f4⟩ := hmid.there (k * 5 + 4) (by omega)
      go_wp2_with fail
      go_region
      go_wp2_with fail
      go_roundw
      case rel => exact ⟨k + 1, by omega, by go_num, mid_step hmid hlt⟩
      case measure => simp [intOf]; omega
    · obtain rfl : k = n := by omega
      have hm := hmid.m
      have hcw : ∀ i, i < k → wr.cell? ⟨b, off + i, none⟩ = some (.string (T i)) := fun i hi => (hmid.below.cell (p := ⟨b, off + i, none⟩) hb).trans (HC.out i hi)
      have hbel := hmid.below
      have htx := hmid.text
      have hvl := hmid.value
      have hmkk := hmid.mask
      clear hmid HC
      go_wp2_with fail
      refine (find_any w.heap.size (w.heap.size + 1) k T q wr hn hm htx).mono ?_
      rintro e w' ⟨hp, rfl⟩
      rcases hp with ⟨j, hj, hE, hno, rfl⟩ | ⟨hno, rfl⟩
      · have HNO : Hid (∀ i, i < j → ((T i).toList == q.toList) = false) := hno
        clear hno
        go_wp2_with fail
        go_loop [11, 12] (fun t i => ∃ m : Nat, m ≤ j ∧ i = .int .i64 m ∧ t = .int .i64 (-1)) (fun _ i => k - (intOf i).toNat)
        case atStart => exact ⟨0, Nat.zero_le _, rfl, rfl⟩
        case round =>
          obtain ⟨m, hmj, rfl, rfl⟩ := hrel
          have hcm := hcw m (by omega)
          have hmk' : m < k := by omega
          by_cases hej : m = j
          · subst hej
            go_wp2_with fail
            go_loopw [13] (fun i wx => ∃ l : Nat, l ≤ k ∧ i = .int .i64 l ∧ ∃ d, wx = w'.drewN d) (fun i _ => k - (intOf i).toNat)
            case atStart => exact ⟨0, Nat.zero_le _, rfl, 0, rfl⟩
            case round =>
              obtain ⟨l, hl, rfl, d, rfl⟩ := hrel
              by_cases hll : l < k
              · have c1 := hcw l hll
                have c2 := htx l hll
                have c3 := hvl l hll
                have c4 := hmkk l hll
                go_wp2_with fail
                go_quiet (fail)
                go_wp2_with fail
                go_roundw
                case rel => exact ⟨l + 1, by omega, by go_num, _, rfl⟩
                case measure => simp [intOf]; omega
              · go_wp2_with fail
                go_ret
                exact ⟨by simp, below_drewN hbel _⟩
          · have hEm := HNO.out m (by omega)
            go_wp2_with fail
            go_round
            case rel => exact ⟨m + 1, by omega, by go_num, rfl⟩
            case measure => simp [intOf]; omega
      · have HNO : Hid (∀ i, i < k → ((T i).toList == q.toList) = false) := hno
        clear hno
        go_wp2_with fail
        go_loop [11, 12] (fun t i => ∃ m : Nat, m ≤ k ∧ i = .int .i64 m ∧ t = .int .i64 (-1)) (fun _ i => k - (intOf i).toNat)
        case atStart => exact ⟨0, Nat.zero_le _, rfl, rfl⟩
        case round =>
          obtain ⟨m, hmj, rfl, rfl⟩ := hrel
          by_cases hmk' : m < k
          · have hcm := hcw m hmk'
            have hEm := HNO.out m hmk'
            go_wp2_with fail
            go_round
            case rel => exact ⟨m + 1, by omega, by go_num, rfl⟩
            case measure => simp [intOf]; omega
          · go_wp2_with fail
            go_loopw [13] (fun i wx => ∃ l : Nat, l ≤ k ∧ i = .int .i64 l ∧ ∃ d, wx = w'.drewN d) (fun i _ => k - (intOf i).toNat)
            case atStart => exact ⟨0, Nat.zero_le _, rfl, 0, rfl⟩
            case round =>
              obtain ⟨l, hl, rfl, d, rfl⟩ := hrel
              by_cases hll : l < k
              · have c1 := hcw l hll
                have c2 := htx l hll
                have c3 := hvl l hll
                have c4 := hmkk l hll
                go_wp2_with fail
                go_quiet (fail)
                go_wp2_with fail
                go_roundw
                case rel => exact ⟨l + 1, by omega, by go_num, _, rfl⟩
                case measure => simp [intOf]; omega
              · go_wp2_with fail
                go_ret
                exact ⟨by simp, below_drewN hbel _⟩
end Go.Proofs.Ybulkbuxi
