/-
  sameEdge at two graphs.
-/
import Derived.Test.YbulkbuxwDoorBGSame
import Derived.Test.YbulkbuxwDoorBFacts
namespace Go.Proofs.YbulkbuxwDoor
open Go.RowKit
set_option linter.unusedVariables false

set_option maxHeartbeats 1000000 in
set_option maxRecDepth 100000 in
theorem edge_graph (ba bb : Nat) (Q : Bool → World → Prop) (w : World) (h : Calls Ybad.prog 13 #[.pointer (some ⟨ba, 0, none⟩), .pointer (some ⟨bb, 0, none⟩)] w fun r w' => ∃ x, r = .returned (.bool x) ∧ Q x w') :
    Calls Ybad.prog 9 #[.iface 40 (.pointer (some ⟨ba, 0, none⟩)), .iface 40 (.pointer (some ⟨bb, 0, none⟩))] w fun r w' => ∃ x, r = .returned (.bool x) ∧ Q x w' := by
  have t1 := as_40_53
  have t2 := as_40_47
  have t3 := as_40_52
  have t4 := as_40_74
  have t5 := as_40_40
  have H : Hid (Calls Ybad.prog 13 #[.pointer (some ⟨ba, 0, none⟩), .pointer (some ⟨bb, 0, none⟩)] w fun r w' => ∃ x, r = .returned (.bool x) ∧ Q x w') := h
  clear h
  go_enter Ybad.func9, Ybad.ntmps9
  go_wp2_with fail
  refine H.out.mono ?_
  rintro r w1 ⟨x, rfl, hQ⟩
  have HQ : Hid (Q x w1) := hQ
  clear hQ
  go_wp2_with fail
  go_ret
  exact ⟨x, rfl, HQ.out⟩

/-- sameEdge of two graphs of one length: whether they hold the same entries up to order. -/
theorem graph_any (ba bb B B' F n : Nat) (xs ys : List Ent) (w : World) (hx : xs.length = n) (hy : ys.length = n) (hn : n ≤ 256) (ga : GraphAt F w B ba xs) (gb : GraphAt F w B' bb ys)
    (sA : ∀ x ∈ xs, x.1.size ≤ 140737488351232) (sB : ∀ x ∈ ys, x.1.size ≤ 140737488351232) :
    Calls Ybad.prog 9 #[.iface 40 (.pointer (some ⟨ba, 0, none⟩)), .iface 40 (.pointer (some ⟨bb, 0, none⟩))] w fun r w' => ∃ x, r = .returned (.bool x) ∧ (x = true ↔ xs.Perm ys) ∧ Below w.heap.size w w' := by
  obtain ⟨r, c, a, cap, vs, h1, h2, h3⟩ := ga
  obtain ⟨r', c', a', cap', vs', h1', h2', h3'⟩ := gb
  rw [hx] at h1 h2
  rw [hy] at h1' h2'
  exact edge_graph ba bb (fun x w' => (x = true ↔ xs.Perm ys) ∧ Below w.heap.size w w') w (graph_walk ba bb B B' F n a a' cap cap' r c r' c' vs vs' xs ys w hx hy hn h1 h1' h2 h2' h3 h3' sA sB)
end Go.Proofs.YbulkbuxwDoor
