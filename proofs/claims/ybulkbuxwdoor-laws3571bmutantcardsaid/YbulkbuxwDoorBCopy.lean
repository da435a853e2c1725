/-
  'copy' of a whole slice of tokens into a row of the call's own: elements of three cells. (The kit's laws on copy speak of elements of one cell.)
-/
import Derived.WalkKit
import Derived.Laws.CopyRow
import Derived.Laws.CopyOwn
namespace Go.Proofs.YbulkbuxwDoor
open Go.RowKit
section
variable {P : Program}

theorem run_copy_full (w : World) (dT sT ty elem : TypeId) (g n dCap : Nat) (a : Addr) (sCap sz : Nat) (cur : Array Value) (t : TypeId) (cs : List Value)
    (hu : P.underlying dT = some (.slice elem)) (hs : (P.info? elem).map (·.size) = some sz) (hg : w.heap[g]? = some (.cells cur t (0, 0))) (hn : cs.length = n * sz) (hcur : cur.size = n * sz)
    (hsrc : ∀ j v, cs[j]? = some v → w.cell? (a.add j) = some v) (h1 : ∀ v ∈ cs, v.oneCell' = true) :
    (Builtin.copy_ #[dT, sT] ty #[.slice (some ⟨g, 0, none⟩) n dCap, .slice (some a) n sCap]).run P w = .ok (goInt n) (w.setRow g cs.toArray) := by
  have hl := run_loadCells_list (P := P) w a cs hsrc
  have hst := run_storeCells_at P g 0 t cs 0 cur w hg (by omega) h1
  have hall : (cur.toList.take (0 + 0) ++ cs ++ cur.toList.drop (0 + 0 + cs.length)).toArray = cs.toArray := by
    have : cur.toList.drop (0 + 0 + cs.length) = [] := by rw [List.drop_eq_nil_iff]; simp; omega
    rw [this]; simp
  rw [hall] at hst
  cases hq : P.info? elem with
  | none => simp [hq] at hs
  | some i =>
    have hi : i.size = sz := by simpa [hq] using hs
    rw [hn] at hl
    simp [Builtin.copy_, run_underlying hu, Builtin.lenOf, Builtin.firstCells, sizeOf, typeInfo, hq, hi, hl, hst]

theorem run_copy_zero (w : World) (dT sT ty elem : TypeId) (d : Addr) (a : Option Addr) (dCap sCap : Nat) (hu : P.underlying dT = some (.slice elem)) (hs : ((P.info? elem).map (·.size)).isSome = true) :
    (Builtin.copy_ #[dT, sT] ty #[.slice (some d) 0 dCap, .slice a 0 sCap]).run P w = .ok (goInt 0) w := by
  cases hq : P.info? elem with
  | none => simp [hq] at hs
  | some i => cases a <;> simp [Builtin.copy_, run_underlying hu, Builtin.lenOf, Builtin.firstCells, sizeOf, typeInfo, hq, storeCells, loadCells, loadCellsFrom]

/-- At the walk's list of operations: the row holds the copied cells; below it, and above, nothing has turned. -/
theorem wpList_copy_full {w : World} {ops : Array Oper} {rest : List Oper} {o : Oper} {a : Act} {Q : Exit → Act → World → Prop} (hgd : o.guard = none) (d s : Operand) (dT : TypeId)
    (ho : o.op = .call { callee := .builtin .copy, args := #[d, s], argTypes := #[dT, dT] }) (elem : TypeId) (sz : Nat) (hu : P.underlying dT = some (.slice elem)) (hsz : (P.info? elem).map (·.size) = some sz)
    (g n dCap sCap : Nat) (sp : Option Addr) (hd : a.eval d = .slice (some ⟨g, 0, none⟩) n dCap) (hs : a.eval s = .slice sp n sCap) (cur : Array Value) (t : TypeId) (hg : w.heap[g]? = some (.cells cur t (0, 0))) (hcur : cur.size = n * sz)
    (cs : List Value) (hn : cs.length = n * sz) (hsrc : 0 < n → ∃ ad, sp = some ad ∧ ∀ j v, cs[j]? = some v → w.cell? (ad.add j) = some v) (h1 : ∀ v ∈ cs, v.oneCell' = true)
    (h : ∀ w', w'.heap[g]? = some (.cells cs.toArray t (0, 0)) → Below g w w' → w'.heap.size = w.heap.size → wpList P ops Q rest (a.put o.dst (goInt n)) w') : wpList P ops Q (o :: rest) a w := by
  refine wpList_plain hgd fun K hK => ?_
  by_cases h0 : n = 0
  · subst h0
    have hrun := run_copy_zero (P := P) w dT dT o.type elem ⟨g, 0, none⟩ sp dCap sCap hu (by rw [hsz]; rfl)
    have hcs : cs = [] := List.eq_nil_of_length_eq_zero (by omega)
    have hcu : cur = #[] := Array.eq_empty_of_size_eq_zero (by omega)
    unfold Oper.wp
    simp [execOp, ho, resolve, invoke, builtin, hd, hs, hrun, Result.andThen]
    exact hK _ _ (h w (by rw [hg, hcs, hcu]) (Below.refl _ _) rfl)
  · obtain ⟨ad, rfl, hc⟩ := hsrc (by omega)
    have hrun := run_copy_full (P := P) w dT dT o.type elem g n dCap ad sCap sz cur t cs hu hsz hg hn hcur hc h1
    unfold Oper.wp
    simp [execOp, ho, resolve, invoke, builtin, hd, hs, hrun, Result.andThen]
    exact hK _ _ (h _ (setRow_heap w g cur _ t _ hg) ((below_setRow (Below.refl _ _) (Nat.le_refl _) _)) (by simp [World.setRow]))
end
end Go.Proofs.YbulkbuxwDoor
