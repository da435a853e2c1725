/-
  THE MAP of sameGraph as a function from texts to slices.
-/
import Derived.Test.YbulkbuxwDoorRows
import Derived.WalkKit
import Derived.Maps.Own
import Derived.Maps.Views
namespace Go.Proofs.YbulkbuxwDoor
open Go.RowKit
open Go.Maps (Keyed)
set_option linter.unusedVariables false

/-- The reader that keeps a value as it is. -/
def asHeld (v : Value) : Option (DataW Value × List MemPlace) := some (.held v, [])

/-- Block b is a map of at most n entries that holds M s at the text s (the nil slice where there is no entry). -/
def MapAt (w : World) (b n : Nat) (M : ByteArray → Value) : Prop :=
  ∃ D : DataW Value, w.ownsMap Ybad.prog 9 asHeld b n D ∧ Maps.IsMap D ∧ ∀ s : ByteArray, s.size ≤ maxLen → D.atKey (.string s.data.toList) (.held (.slice none 0 0)) = .held (M s)

theorem bytes_same {s t : ByteArray} (h : Lit.string t.data.toList = Lit.string s.data.toList) : t = s := by
  injection h with h
  exact WideShapes.bytes_inj h
theorem key9 : Keyed Ybad.prog 9 := Maps.string_keyed Ybad.underlying9
theorem keyOf9 {s : ByteArray} (hs : s.size ≤ maxLen) : keyOf Ybad.prog 9 (.string s) = some (.string s.data.toList) := WideMaps.keyOf_string_mk Ybad.underlying9 hs

theorem map_made (w : World) : MapAt (w.alloc (.map #[] 0)) w.heap.size 0 (fun _ => .slice none 0 0) :=
  ⟨.map [], World.ownsMap_made w _ _ _, Maps.isMap_empty, fun s _ => rfl⟩

theorem MapAt.kept {w w' : World} {b n : Nat} {M : ByteArray → Value} {row : Option Nat} (h : MapAt w b n M) (hg : w.grownBy w' row) (hne : some b ≠ row) : MapAt w' b n M := by
  obtain ⟨D, h1, h2, h3⟩ := h
  exact ⟨D, h1.kept hg hne, h2, h3⟩
theorem MapAt.mono {w : World} {b n n' : Nat} {M : ByteArray → Value} (h : MapAt w b n M) (hn : n ≤ n') : MapAt w b n' M := by
  obtain ⟨D, h1, h2, h3⟩ := h
  exact ⟨D, h1.mono hn, h2, h3⟩
theorem zero76 (w : World) : (zeroValue 76).run Ybad.prog w = .ok (.slice none 0 0) w := by kernel_rfl

/-- 'edges[text]'. -/
theorem MapAt.lookup {w : World} {b n : Nat} {M : ByteArray → Value} (h : MapAt w b n M) {s : ByteArray} (hs : s.size ≤ maxLen) : (Instr.lookup 82 (.map (some b)) (.string s) false).run Ybad.prog w = .ok (M s) w := by
  obtain ⟨D, h1, h2, h3⟩ := h
  obtain ⟨v, ps, hrun, hv⟩ := h1.lookup key9 Ybad.underlying82 (zero76 w) (zd := .held (.slice none 0 0)) rfl (keyOf9 hs)
  rw [h3 s hs] at hv
  simp only [asHeld, Option.some.injEq, Prod.mk.injEq, DataW.held.injEq] at hv
  rw [hrun, hv.1]

/-- 'edges[text] = v'. -/
theorem MapAt.update {w : World} {b n : Nat} {M : ByteArray → Value} (h : MapAt w b n M) (hn : n < maxLen) {s : ByteArray} (hs : s.size ≤ maxLen) (v : Value) :
    ∃ w', (Instr.mapUpdate 82 (.map (some b)) (.string s) v).run Ybad.prog w = .ok () w' ∧ MapAt w' b (n + 1) (fun t => if t = s then v else M t) ∧ w.grownBy w' (some b) := by
  obtain ⟨D, h1, h2, h3⟩ := h
  obtain ⟨w', hrun, hown, hg⟩ := h1.update key9 Ybad.underlying82 hn (d := .held v) (ps := []) (keyOf9 hs) rfl
  refine ⟨w', hrun, ⟨_, hown, h2.put _ _, fun t ht => ?_⟩, hg⟩
  show _ = DataW.held (if t = s then v else M t)
  by_cases he : t = s
  · subst he
    rw [Maps.atKey_put_same (k := .string t.data.toList) h2 trivial, if_pos rfl]
  · rw [Maps.atKey_put_other (fun e => he (bytes_same e)), h3 t ht, if_neg he]
end Go.Proofs.YbulkbuxwDoor
