/-
  What the walk of LawS3571BGraph asks of memory.
-/
import Derived.Test.YbulkbuxwDoorBGLawPlain
namespace Go.Proofs.YbulkbuxwDoor
open Go.RowKit
set_option linter.unusedVariables false

/-- zzs3571btree at an entry's edge, in a later world. -/
theorem tree_of {w : World} {a : Option Addr} {n : Nat} {X : Ents} (hE : EntsAt w w.heap.size a n X) (hall : ∀ i, i < n → X.TL i ≤ 256) {F : Nat} (hF : 256 ≤ F) {E : Nat → List Norm} (hEn : ∀ j, (encF (X.T j) (X.TL j) F 0).1 = E j)
    (k : Nat) (hk : k < n) (row : Int) (wx : World) (bel : Below w.heap.size w wx) (sz : w.heap.size ≤ wx.heap.size) :
    Calls Ybad.prog 8 #[.slice (X.TA k) (X.TL k) (X.TC k), .int .i64 row] wx fun r w' => TreePost wx (F + 1) (E k) r w' := by
  obtain ⟨eb, eo, _, _, _, _, _, htok⟩ := hE k hk
  rw [← hEn k]
  have := hall k hk
  exact tree_any (X.TA k) (X.TL k) (X.TC k) row (X.T k) wx F (by omega) (by omega) (htok.up bel sz)
/-- An entry's cells, in a later world. -/
theorem ent_at {w : World} {a : Option Addr} {n : Nat} {X : Ents} (hE : EntsAt w w.heap.size a n X) (k : Nat) (hk : k < n) : ∃ eb eo, a = some ⟨eb, eo, none⟩ ∧ eb < w.heap.size ∧ ∀ wx, Below w.heap.size w wx → wx.cell? ⟨eb, eo + k * 2, none⟩ = some (.string (X.P k)) ∧ wx.cell? ⟨eb, eo + k * 2 + 1, none⟩ = some (.slice (X.TA k) (X.TL k) (X.TC k)) := by
  obtain ⟨eb, eo, h1, h2, h3, h4, _, _⟩ := hE k hk
  exact ⟨eb, eo, h1, h2, fun wx bel => ⟨(bel.cell (p := ⟨eb, eo + k * 2, none⟩) h2).trans h3, (bel.cell (p := ⟨eb, eo + k * 2 + 1, none⟩) h2).trans h4⟩⟩

theorem cell_alloc3 (w : World) (o1 o2 o3 : Obj) (b o : Nat) (h : b < w.heap.size) : (((w.alloc o1).alloc o2).alloc o3).cell? ⟨b, o, none⟩ = w.cell? ⟨b, o, none⟩ :=
  (((((Below.refl w.heap.size w).alloc (Nat.le_refl _) o1).alloc (by simp) o2).alloc (by simp; omega) o3).cell (p := ⟨b, o, none⟩) h)

/-- '0 < edge', laid behind an edge. -/
theorem wrap_world (w1 : World) (u : TypeId) (p F : Nat) (e : List Norm) (h : Tree w1 0 (F + 1) (.iface u (.pointer (some ⟨p, 0, none⟩))) e) :
    Tree ((w1.alloc (.cells #[.int .i64 9, .int .i64 0, .int .i64 0] 55)).alloc (.cells #[.iface 53 (.pointer (some ⟨w1.heap.size, 0, none⟩)), .iface u (.pointer (some ⟨p, 0, none⟩))] 57)) 0 (F + 2) (.iface 52 (.pointer (some ⟨w1.heap.size + 1, 0, none⟩))) (wrapped e) ∧
      Below w1.heap.size w1 ((w1.alloc (.cells #[.int .i64 9, .int .i64 0, .int .i64 0] 55)).alloc (.cells #[.iface 53 (.pointer (some ⟨w1.heap.size, 0, none⟩)), .iface u (.pointer (some ⟨p, 0, none⟩))] 57)) ∧
      w1.heap.size ≤ ((w1.alloc (.cells #[.int .i64 9, .int .i64 0, .int .i64 0] 55)).alloc (.cells #[.iface 53 (.pointer (some ⟨w1.heap.size, 0, none⟩)), .iface u (.pointer (some ⟨p, 0, none⟩))] 57)).heap.size := by
  have bel : Below w1.heap.size w1 ((w1.alloc (.cells #[.int .i64 9, .int .i64 0, .int .i64 0] 55)).alloc (.cells #[.iface 53 (.pointer (some ⟨w1.heap.size, 0, none⟩)), .iface u (.pointer (some ⟨p, 0, none⟩))] 57)) :=
    ((Below.refl _ w1).alloc (Nat.le_refl _) _).alloc (by simp) _
  refine ⟨?_, bel, by simp; omega⟩
  refine .inr (.inr (.inl ⟨w1.heap.size + 1, .iface 53 (.pointer (some ⟨w1.heap.size, 0, none⟩)), .iface u (.pointer (some ⟨p, 0, none⟩)), [(0, 0, nils)], e, rfl, Nat.zero_le _, ?_, ?_, h.below bel, rfl⟩))
  · have e1 : w1.heap.size + 1 = (w1.alloc (.cells #[.int .i64 9, .int .i64 0, .int .i64 0] 55)).heap.size := by simp
    rw [e1]
    exact heap_alloc_new _ _
  · refine .inl ⟨w1.heap.size, .int .i64 9, .int .i64 0, 0, rfl, Nat.zero_le _, ?_, rfl⟩
    rw [Below.heap_alloc _ _ _ (by simp)]
    exact heap_alloc_new _ _
end Go.Proofs.YbulkbuxwDoor
