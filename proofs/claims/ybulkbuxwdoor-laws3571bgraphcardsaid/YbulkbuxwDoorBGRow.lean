/-
  Cells laid into a row.
-/
import Derived.Test.YbulkbuxwDoorRows
import Derived.Test.YbulkbuxwDoorBBuild
import Derived.Deep.RegionLaw
namespace Go.Proofs.YbulkbuxwDoor
open Go.RowKit
set_option linter.unusedVariables false

theorem grownBy_setCell (w : World) (g o : Nat) (v : Value) : w.grownBy (w.setCell ⟨g, o, none⟩ v) (some g) :=
  ⟨rfl, rfl, rfl, by rw [size_setCell]; exact Nat.le_refl _, fun k _ hk => heap_setCell_other w _ k v (fun e => hk (by rw [e]))⟩
theorem grownBy_trans' {a b c : World} {row : Option Nat} (h : a.grownBy b row) (k : b.grownBy c row) : a.grownBy c row :=
  ⟨k.os.trans h.os, k.tape.trans h.tape, k.output.trans h.output, Nat.le_trans h.size k.size, fun i hi hne => (k.block i (Nat.lt_of_lt_of_le hi h.size) hne).trans (h.block i hi hne)⟩

/-- What a list's cells laid at a block's offset o leave. -/
theorem setCells_block (g : Nat) (t : TypeId) : ∀ (vs : List Value) (o : Nat) (w : World) (cur : Array Value), w.heap[g]? = some (.cells cur t (0, 0)) → o + vs.length ≤ cur.size →
    ∃ cur', (w.setCells g o vs).heap[g]? = some (.cells cur' t (0, 0)) ∧ cur'.size = cur.size ∧ (∀ i : Nat, cur'[i]? = if o ≤ i ∧ i < o + vs.length then vs[i - o]? else cur[i]?) ∧ w.grownBy (w.setCells g o vs) (some g)
  | [], o, w, cur, hg, _ => by
    refine ⟨cur, hg, rfl, fun i => ?_, ⟨rfl, rfl, rfl, Nat.le_refl _, fun _ _ _ => rfl⟩⟩
    have : ¬ (o ≤ i ∧ i < o + ([] : List Value).length) := by simp only [List.length_nil]; omega
    rw [if_neg this]
  | v :: r, o, w, cur, hg, hl => by
    simp only [List.length_cons] at hl
    have h1 := heap_setCell_same w g o cur t v hg
    obtain ⟨cur', a1, a2, a3, a4⟩ := setCells_block g t r (o + 1) (w.setCell ⟨g, o, none⟩ v) _ h1 (by simp; omega)
    refine ⟨cur', a1, by simpa using a2, fun i => ?_, grownBy_trans' (grownBy_setCell w g o v) a4⟩
    rw [a3 i]
    by_cases hi : o + 1 ≤ i ∧ i < o + 1 + r.length
    · have hi' : o ≤ i ∧ i < o + (v :: r).length := by simp only [List.length_cons]; omega
      rw [if_pos hi, if_pos hi']
      obtain ⟨j, rfl⟩ : ∃ j, i = o + 1 + j := ⟨i - (o + 1), by omega⟩
      have e1 : o + 1 + j - (o + 1) = j := by omega
      have e2 : o + 1 + j - o = j + 1 := by omega
      rw [e1, e2]
      simp
    · rw [if_neg hi, Array.getElem?_setIfInBounds]
      by_cases he : o = i
      · subst he
        have hi' : o ≤ o ∧ o < o + (v :: r).length := by simp only [List.length_cons]; omega
        rw [if_pos hi', if_pos rfl, if_pos (by omega)]
        simp
      · have hi' : ¬ (o ≤ i ∧ i < o + (v :: r).length) := by simp only [List.length_cons]; omega
        rw [if_neg hi', if_neg he]
end Go.Proofs.YbulkbuxwDoor
