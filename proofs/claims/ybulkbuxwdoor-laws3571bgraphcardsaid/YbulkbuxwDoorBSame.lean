/-
  sameEdge over trees: it answers whether the encodings are equal.
-/
import Derived.Test.YbulkbuxwDoorBFacts
import Derived.Test.YbulkbuxwDoorBHeap
import Derived.WalkSpells
import Derived.BigQuiet
import Derived.Deep.QuietTactic
namespace Go.Proofs.YbulkbuxwDoor
open Go.RowKit

set_option maxHeartbeats 1000000 in
set_option maxRecDepth 100000 in
theorem same_num (b b' : Nat) (n n' : Int) (w : World) (h : w.cell? ⟨b, 2, none⟩ = some (.int .i64 n)) (h' : w.cell? ⟨b', 2, none⟩ = some (.int .i64 n')) :
    Calls Ybad.prog 9 #[.iface 53 (.pointer (some ⟨b, 0, none⟩)), .iface 53 (.pointer (some ⟨b', 0, none⟩))] w fun r w' => r = .returned (.bool (n == n')) ∧ ∃ m, w' = w.drewN m := by
  have t1 := as_53_53
  go_enter Ybad.func9, Ybad.ntmps9
  go_wp2_with fail
  go_quiet (fail)
  go_wp2_with fail
  go_ret
  exact ⟨rfl, _, rfl⟩
set_option maxHeartbeats 1000000 in
set_option maxRecDepth 100000 in
theorem same_name (b b' : Nat) (n n' : ByteArray) (w : World) (h : w.cell? ⟨b, 2, none⟩ = some (.string n)) (h' : w.cell? ⟨b', 2, none⟩ = some (.string n')) :
    Calls Ybad.prog 9 #[.iface 47 (.pointer (some ⟨b, 0, none⟩)), .iface 47 (.pointer (some ⟨b', 0, none⟩))] w fun r w' => r = .returned (.bool (n.toList == n'.toList)) ∧ ∃ m, w' = w.drewN m := by
  have t1 := as_47_53
  have t2 := as_47_47
  go_enter Ybad.func9, Ybad.ntmps9
  go_wp2_with fail
  go_quiet (fail)
  go_wp2_with fail
  go_ret
  exact ⟨rfl, _, rfl⟩

set_option maxHeartbeats 1000000 in
set_option maxRecDepth 100000 in
theorem miss_53_47 (b b' : Nat) (w : World) :
    Calls Ybad.prog 9 #[.iface 53 (.pointer (some ⟨b, 0, none⟩)), .iface 47 (.pointer (some ⟨b', 0, none⟩))] w fun r w' => r = .returned (.bool false) ∧ ∃ m, w' = w.drewN m := by
  have t0 := as_53_53
  have t1 := as_47_53
  go_enter Ybad.func9, Ybad.ntmps9
  go_wp2_with fail
  go_quiet (fail)
  go_wp2_with fail
  go_ret
  exact ⟨rfl, _, rfl⟩

set_option maxHeartbeats 1000000 in
set_option maxRecDepth 100000 in
theorem miss_53_52 (b b' : Nat) (w : World) :
    Calls Ybad.prog 9 #[.iface 53 (.pointer (some ⟨b, 0, none⟩)), .iface 52 (.pointer (some ⟨b', 0, none⟩))] w fun r w' => r = .returned (.bool false) ∧ ∃ m, w' = w.drewN m := by
  have t0 := as_53_53
  have t1 := as_52_53
  go_enter Ybad.func9, Ybad.ntmps9
  go_wp2_with fail
  go_quiet (fail)
  go_wp2_with fail
  go_ret
  exact ⟨rfl, _, rfl⟩

set_option maxHeartbeats 1000000 in
set_option maxRecDepth 100000 in
theorem miss_53_74 (b b' : Nat) (w : World) :
    Calls Ybad.prog 9 #[.iface 53 (.pointer (some ⟨b, 0, none⟩)), .iface 74 (.pointer (some ⟨b', 0, none⟩))] w fun r w' => r = .returned (.bool false) ∧ ∃ m, w' = w.drewN m := by
  have t0 := as_53_53
  have t1 := as_74_53
  go_enter Ybad.func9, Ybad.ntmps9
  go_wp2_with fail
  go_quiet (fail)
  go_wp2_with fail
  go_ret
  exact ⟨rfl, _, rfl⟩

set_option maxHeartbeats 1000000 in
set_option maxRecDepth 100000 in
theorem miss_53_40 (b b' : Nat) (w : World) :
    Calls Ybad.prog 9 #[.iface 53 (.pointer (some ⟨b, 0, none⟩)), .iface 40 (.pointer (some ⟨b', 0, none⟩))] w fun r w' => r = .returned (.bool false) ∧ ∃ m, w' = w.drewN m := by
  have t0 := as_53_53
  have t1 := as_40_53
  go_enter Ybad.func9, Ybad.ntmps9
  go_wp2_with fail
  go_quiet (fail)
  go_wp2_with fail
  go_ret
  exact ⟨rfl, _, rfl⟩

set_option maxHeartbeats 1000000 in
set_option maxRecDepth 100000 in
theorem miss_47_53 (b b' : Nat) (w : World) :
    Calls Ybad.prog 9 #[.iface 47 (.pointer (some ⟨b, 0, none⟩)), .iface 53 (.pointer (some ⟨b', 0, none⟩))] w fun r w' => r = .returned (.bool false) ∧ ∃ m, w' = w.drewN m := by
  have t0 := as_47_53
  have t1 := as_47_47
  have t2 := as_53_47
  go_enter Ybad.func9, Ybad.ntmps9
  go_wp2_with fail
  go_quiet (fail)
  go_wp2_with fail
  go_ret
  exact ⟨rfl, _, rfl⟩

set_option maxHeartbeats 1000000 in
set_option maxRecDepth 100000 in
theorem miss_47_52 (b b' : Nat) (w : World) :
    Calls Ybad.prog 9 #[.iface 47 (.pointer (some ⟨b, 0, none⟩)), .iface 52 (.pointer (some ⟨b', 0, none⟩))] w fun r w' => r = .returned (.bool false) ∧ ∃ m, w' = w.drewN m := by
  have t0 := as_47_53
  have t1 := as_47_47
  have t2 := as_52_47
  go_enter Ybad.func9, Ybad.ntmps9
  go_wp2_with fail
  go_quiet (fail)
  go_wp2_with fail
  go_ret
  exact ⟨rfl, _, rfl⟩

set_option maxHeartbeats 1000000 in
set_option maxRecDepth 100000 in
theorem miss_47_74 (b b' : Nat) (w : World) :
    Calls Ybad.prog 9 #[.iface 47 (.pointer (some ⟨b, 0, none⟩)), .iface 74 (.pointer (some ⟨b', 0, none⟩))] w fun r w' => r = .returned (.bool false) ∧ ∃ m, w' = w.drewN m := by
  have t0 := as_47_53
  have t1 := as_47_47
  have t2 := as_74_47
  go_enter Ybad.func9, Ybad.ntmps9
  go_wp2_with fail
  go_quiet (fail)
  go_wp2_with fail
  go_ret
  exact ⟨rfl, _, rfl⟩

set_option maxHeartbeats 1000000 in
set_option maxRecDepth 100000 in
theorem miss_47_40 (b b' : Nat) (w : World) :
    Calls Ybad.prog 9 #[.iface 47 (.pointer (some ⟨b, 0, none⟩)), .iface 40 (.pointer (some ⟨b', 0, none⟩))] w fun r w' => r = .returned (.bool false) ∧ ∃ m, w' = w.drewN m := by
  have t0 := as_47_53
  have t1 := as_47_47
  have t2 := as_40_47
  go_enter Ybad.func9, Ybad.ntmps9
  go_wp2_with fail
  go_quiet (fail)
  go_wp2_with fail
  go_ret
  exact ⟨rfl, _, rfl⟩

set_option maxHeartbeats 1000000 in
set_option maxRecDepth 100000 in
theorem miss_52_53 (b b' : Nat) (w : World) :
    Calls Ybad.prog 9 #[.iface 52 (.pointer (some ⟨b, 0, none⟩)), .iface 53 (.pointer (some ⟨b', 0, none⟩))] w fun r w' => r = .returned (.bool false) ∧ ∃ m, w' = w.drewN m := by
  have t0 := as_52_53
  have t1 := as_52_47
  have t2 := as_52_52
  have t3 := as_53_52
  go_enter Ybad.func9, Ybad.ntmps9
  go_wp2_with fail
  go_quiet (fail)
  go_wp2_with fail
  go_ret
  exact ⟨rfl, _, rfl⟩

set_option maxHeartbeats 1000000 in
set_option maxRecDepth 100000 in
theorem miss_52_47 (b b' : Nat) (w : World) :
    Calls Ybad.prog 9 #[.iface 52 (.pointer (some ⟨b, 0, none⟩)), .iface 47 (.pointer (some ⟨b', 0, none⟩))] w fun r w' => r = .returned (.bool false) ∧ ∃ m, w' = w.drewN m := by
  have t0 := as_52_53
  have t1 := as_52_47
  have t2 := as_52_52
  have t3 := as_47_52
  go_enter Ybad.func9, Ybad.ntmps9
  go_wp2_with fail
  go_quiet (fail)
  go_wp2_with fail
  go_ret
  exact ⟨rfl, _, rfl⟩

set_option maxHeartbeats 1000000 in
set_option maxRecDepth 100000 in
theorem miss_52_74 (b b' : Nat) (w : World) :
    Calls Ybad.prog 9 #[.iface 52 (.pointer (some ⟨b, 0, none⟩)), .iface 74 (.pointer (some ⟨b', 0, none⟩))] w fun r w' => r = .returned (.bool false) ∧ ∃ m, w' = w.drewN m := by
  have t0 := as_52_53
  have t1 := as_52_47
  have t2 := as_52_52
  have t3 := as_74_52
  go_enter Ybad.func9, Ybad.ntmps9
  go_wp2_with fail
  go_quiet (fail)
  go_wp2_with fail
  go_ret
  exact ⟨rfl, _, rfl⟩

set_option maxHeartbeats 1000000 in
set_option maxRecDepth 100000 in
theorem miss_52_40 (b b' : Nat) (w : World) :
    Calls Ybad.prog 9 #[.iface 52 (.pointer (some ⟨b, 0, none⟩)), .iface 40 (.pointer (some ⟨b', 0, none⟩))] w fun r w' => r = .returned (.bool false) ∧ ∃ m, w' = w.drewN m := by
  have t0 := as_52_53
  have t1 := as_52_47
  have t2 := as_52_52
  have t3 := as_40_52
  go_enter Ybad.func9, Ybad.ntmps9
  go_wp2_with fail
  go_quiet (fail)
  go_wp2_with fail
  go_ret
  exact ⟨rfl, _, rfl⟩

set_option maxHeartbeats 1000000 in
set_option maxRecDepth 100000 in
theorem miss_74_53 (b b' : Nat) (w : World) :
    Calls Ybad.prog 9 #[.iface 74 (.pointer (some ⟨b, 0, none⟩)), .iface 53 (.pointer (some ⟨b', 0, none⟩))] w fun r w' => r = .returned (.bool false) ∧ ∃ m, w' = w.drewN m := by
  have t0 := as_74_53
  have t1 := as_74_47
  have t2 := as_74_52
  have t3 := as_74_74
  have t4 := as_53_74
  go_enter Ybad.func9, Ybad.ntmps9
  go_wp2_with fail
  go_quiet (fail)
  go_wp2_with fail
  go_ret
  exact ⟨rfl, _, rfl⟩

set_option maxHeartbeats 1000000 in
set_option maxRecDepth 100000 in
theorem miss_74_47 (b b' : Nat) (w : World) :
    Calls Ybad.prog 9 #[.iface 74 (.pointer (some ⟨b, 0, none⟩)), .iface 47 (.pointer (some ⟨b', 0, none⟩))] w fun r w' => r = .returned (.bool false) ∧ ∃ m, w' = w.drewN m := by
  have t0 := as_74_53
  have t1 := as_74_47
  have t2 := as_74_52
  have t3 := as_74_74
  have t4 := as_47_74
  go_enter Ybad.func9, Ybad.ntmps9
  go_wp2_with fail
  go_quiet (fail)
  go_wp2_with fail
  go_ret
  exact ⟨rfl, _, rfl⟩

set_option maxHeartbeats 1000000 in
set_option maxRecDepth 100000 in
theorem miss_74_52 (b b' : Nat) (w : World) :
    Calls Ybad.prog 9 #[.iface 74 (.pointer (some ⟨b, 0, none⟩)), .iface 52 (.pointer (some ⟨b', 0, none⟩))] w fun r w' => r = .returned (.bool false) ∧ ∃ m, w' = w.drewN m := by
  have t0 := as_74_53
  have t1 := as_74_47
  have t2 := as_74_52
  have t3 := as_74_74
  have t4 := as_52_74
  go_enter Ybad.func9, Ybad.ntmps9
  go_wp2_with fail
  go_quiet (fail)
  go_wp2_with fail
  go_ret
  exact ⟨rfl, _, rfl⟩

set_option maxHeartbeats 1000000 in
set_option maxRecDepth 100000 in
theorem miss_74_40 (b b' : Nat) (w : World) :
    Calls Ybad.prog 9 #[.iface 74 (.pointer (some ⟨b, 0, none⟩)), .iface 40 (.pointer (some ⟨b', 0, none⟩))] w fun r w' => r = .returned (.bool false) ∧ ∃ m, w' = w.drewN m := by
  have t0 := as_74_53
  have t1 := as_74_47
  have t2 := as_74_52
  have t3 := as_74_74
  have t4 := as_40_74
  go_enter Ybad.func9, Ybad.ntmps9
  go_wp2_with fail
  go_quiet (fail)
  go_wp2_with fail
  go_ret
  exact ⟨rfl, _, rfl⟩

end Go.Proofs.YbulkbuxwDoor
