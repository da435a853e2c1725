/-
  The filling loop's world: what a round does to it. No walk in this text.
-/
import Derived.WalkKit
namespace Go.Proofs.Ybulkbuxi
open Go.RowKit

/-- The world after k rounds of the filling loop: block w.heap.size is the map, the block behind it its maplets, five cells each. -/
structure Mid (w wr : World) (n : Nat) (T : Nat → ByteArray) (k : Nat) : Prop where
  m : wr.cell? ⟨w.heap.size, 1, none⟩ = some (.slice (some ⟨w.heap.size + 1, 0, none⟩) n n)
  text : ∀ i, i < k → wr.cell? ⟨w.heap.size + 1, i * 5, none⟩ = some (.string (T i))
  value : ∀ i, i < k → wr.cell? ⟨w.heap.size + 1, i * 5 + 1, none⟩ = some (.int .u64 i)
  mask : ∀ i, i < k → wr.cell? ⟨w.heap.size + 1, i * 5 + 2, none⟩ = some (.int .u64 i)
  there : ∀ j, j < n * 5 → (∃ v, wr.cell? ⟨w.heap.size + 1, j, none⟩ = some v) ∧ wr.frozen? ⟨w.heap.size + 1, j, none⟩ = false
  below : Below w.heap.size w wr

theorem mid_start (w : World) (n : Nat) (T : Nat → ByteArray) (c : Array Value) (z : Array Value) (t u : TypeId) (hc : c[1]? = some (.slice (some ⟨w.heap.size + 1, 0, none⟩) n n)) :
    Mid w ((w.alloc (.cells c t)).alloc (.cells (madeCells z (n * 5)) u)) n T 0 := by
  have hs : (w.alloc (.cells c t)).heap.size = w.heap.size + 1 := by simp
  refine ⟨?_, fun i hi => absurd hi (Nat.not_lt_zero i), fun i hi => absurd hi (Nat.not_lt_zero i), fun i hi => absurd hi (Nat.not_lt_zero i), fun j hj => ⟨?_, ?_⟩, ?_⟩
  · rw [World.cell?_alloc_past _ _ _ (by omega), World.cell?_alloc_at _ _ _ _ rfl, hc]
  · rw [World.cell?_alloc_at _ _ _ _ hs.symm]
    have : j < (madeCells z (n * 5)).size := by rw [size_madeCells]; exact hj
    exact ⟨_, Array.getElem?_eq_getElem this⟩
  · rw [World.frozen?_alloc_at _ _ _ _ hs.symm]
  · exact ((Below.refl _ _).alloc (Nat.le_refl _) _).alloc (by omega) _

theorem cell_set {w : World} {a b : Addr} {u v : Value} (h : w.cell? b = some u) : ∃ u', (w.setCell a v).cell? b = some u' := by
  by_cases e : a = b
  · subst e; exact ⟨v, World.cell?_setCell_same w a v h⟩
  · exact ⟨u, by rw [World.cell?_setCell_other w _ _ _ e]; exact h⟩
theorem set_ne {w : World} {g i j : Nat} {v : Value} (h : i ≠ j) : (w.setCell ⟨g, i, none⟩ v).cell? ⟨g, j, none⟩ = w.cell? ⟨g, j, none⟩ :=
  World.cell?_setCell_other w _ _ _ (fun e => h (by injection e))
theorem set_neb {w : World} {g g' i j : Nat} {v : Value} (h : g ≠ g') : (w.setCell ⟨g, i, none⟩ v).cell? ⟨g', j, none⟩ = w.cell? ⟨g', j, none⟩ :=
  World.cell?_setCell_other w _ _ _ (fun e => h (by injection e))

theorem mid_step {w wr : World} {n : Nat} {T : Nat → ByteArray} {k : Nat} (h : Mid w wr n T k) (hk : k < n) :
    Mid w (((((wr.setCell ⟨w.heap.size + 1, k * 5, none⟩ (.string (T k))).setCell ⟨w.heap.size + 1, k * 5 + 1, none⟩ (.int .u64 k)).setCell
      ⟨w.heap.size + 1, k * 5 + 2, none⟩ (.int .u64 k)).setCell ⟨w.heap.size + 1, k * 5 + 3, none⟩ (.bool false)).setCell ⟨w.heap.size + 1, k * 5 + 4, none⟩ (.bool false)).drew n T (k + 1) := by
  obtain ⟨⟨v0, e0⟩, f0⟩ := h.there (k * 5) (by omega)
  obtain ⟨⟨v1, e1⟩, f1⟩ := h.there (k * 5 + 1) (by omega)
  obtain ⟨⟨v2, e2⟩, f2⟩ := h.there (k * 5 + 2) (by omega)
  refine ⟨?_, fun i hi => ?_, fun i hi => ?_, fun i hi => ?_, fun j hj => ⟨?_, ?_⟩, ?_⟩
  · rw [World.cell?_drew, set_neb (by omega), set_neb (by omega), set_neb (by omega), set_neb (by omega), set_neb (by omega)]; exact h.m
  · rw [World.cell?_drew, set_ne (by omega), set_ne (by omega), set_ne (by omega), set_ne (by omega)]
    by_cases e : i = k
    · subst e; exact World.cell?_setCell_same _ _ _ e0
    · rw [set_ne (by omega)]; exact h.text i (by omega)
  · rw [World.cell?_drew, set_ne (by omega), set_ne (by omega), set_ne (by omega)]
    by_cases e : i = k
    · subst e; exact World.cell?_setCell_same _ _ _ (by rw [set_ne (by omega)]; exact e1)
    · rw [set_ne (by omega), set_ne (by omega)]; exact h.value i (by omega)
  · rw [World.cell?_drew, set_ne (by omega), set_ne (by omega)]
    by_cases e : i = k
    · subst e; exact World.cell?_setCell_same _ _ _ (by rw [set_ne (by omega), set_ne (by omega)]; exact e2)
    · rw [set_ne (by omega), set_ne (by omega), set_ne (by omega)]; exact h.mask i (by omega)
  · obtain ⟨⟨v, e⟩, _⟩ := h.there j hj
    rw [World.cell?_drew]
    obtain ⟨_, e⟩ := cell_set (a := ⟨w.heap.size + 1, k * 5, none⟩) (v := .string (T k)) e
    obtain ⟨_, e⟩ := cell_set (a := ⟨w.heap.size + 1, k * 5 + 1, none⟩) (v := .int .u64 k) e
    obtain ⟨_, e⟩ := cell_set (a := ⟨w.heap.size + 1, k * 5 + 2, none⟩) (v := .int .u64 k) e
    obtain ⟨_, e⟩ := cell_set (a := ⟨w.heap.size + 1, k * 5 + 3, none⟩) (v := .bool false) e
    exact cell_set e
  · rw [World.frozen?_drew]; simp only [World.frozen?_setCell]; exact (h.there j hj).2
  · exact (((((h.below.setCell (by simp) _).setCell (by simp) _).setCell (by simp) _).setCell (by simp) _).setCell (by simp) _).drew
end Go.Proofs.Ybulkbuxi
