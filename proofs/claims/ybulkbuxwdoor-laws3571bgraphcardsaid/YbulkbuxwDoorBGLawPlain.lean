/-
  The entries that LawS3571BGraph is handed; the two lists that it builds.
-/
import Derived.Test.YbulkbuxwDoorBGEdge
namespace Go.Proofs.YbulkbuxwDoor
open Go.RowKit
set_option linter.unusedVariables false

/-- The entries: text, and the tokens of the edge with the slice that holds them. -/
structure Ents where
  P : Nat → ByteArray
  TA : Nat → Option Addr
  TL : Nat → Nat
  TC : Nat → Nat
  T : Nat → Toks

def EntsAt (w : World) (B : Nat) (a : Option Addr) (n : Nat) (X : Ents) : Prop :=
  ∀ j, j < n → ∃ eb eo, a = some ⟨eb, eo, none⟩ ∧ eb < B ∧ w.cell? ⟨eb, eo + j * 2, none⟩ = some (.string (X.P j)) ∧ w.cell? ⟨eb, eo + j * 2 + 1, none⟩ = some (.slice (X.TA j) (X.TL j) (X.TC j)) ∧
    (X.P j).size ≤ 140737488351232 ∧ TokAt w B (X.TA j) (X.TL j) (X.T j)

/-- The first graph's entries up to k. -/
def pref (p : Nat → ByteArray) (e : Nat → List Norm) (k : Nat) : List Ent := (List.range k).map fun j => (p j, e j)
/-- The second graph's entries from n - 1 down to q. -/
def suf (p : Nat → ByteArray) (e : Nat → List Norm) (n q : Nat) : List Ent := ((pref p e n).drop q).reverse

theorem pref_length (p : Nat → ByteArray) (e : Nat → List Norm) (k : Nat) : (pref p e k).length = k := by simp [pref]
theorem pref_succ (p : Nat → ByteArray) (e : Nat → List Norm) (k : Nat) : pref p e (k + 1) = pref p e k ++ [(p k, e k)] := by simp [pref, List.range_succ]
theorem suf_length (p : Nat → ByteArray) (e : Nat → List Norm) (n q : Nat) : (suf p e n q).length = n - q := by simp [suf, pref_length]
theorem suf_start (p : Nat → ByteArray) (e : Nat → List Norm) (n : Nat) : suf p e n n = [] := by
  unfold suf
  rw [List.drop_of_length_le (by rw [pref_length]; exact Nat.le_refl _)]
  rfl
theorem suf_succ (p : Nat → ByteArray) (e : Nat → List Norm) (n q : Nat) (h : q < n) : suf p e n q = suf p e n (q + 1) ++ [(p q, e q)] := by
  unfold suf
  have : (pref p e n)[q]? = some (p q, e q) := by simp [pref, h]
  rw [drop_at this, List.reverse_cons]
theorem suf_zero (p : Nat → ByteArray) (e : Nat → List Norm) (n : Nat) : suf p e n 0 = (pref p e n).reverse := by simp [suf]
theorem mem_pref {p : Nat → ByteArray} {e : Nat → List Norm} {n : Nat} {x : Ent} (h : x ∈ pref p e n) : ∃ j, j < n ∧ x = (p j, e j) := by
  simp only [pref, List.mem_map, List.mem_range] at h
  obtain ⟨j, hj, rfl⟩ := h
  exact ⟨j, hj, rfl⟩

theorem perm_same (p : Nat → ByteArray) (e : Nat → List Norm) (n : Nat) : (pref p e n).Perm (suf p e n 0) := by
  rw [suf_zero]
  exact (List.reverse_perm _).symm
theorem perm_wrap (p : Nat → ByteArray) (e : Nat → List Norm) (k n : Nat) (hk : k < n) : ¬ (pref p e n).Perm (suf p (fun j => if j = k then wrapped (e j) else e j) n 0) := by
  rw [suf_zero]
  exact not_perm_wrap p e k n hk

theorem info46 : (Ybad.prog.info? 46).map (fun i => (i.zero, i.size, i.bytes)) = some (some (.pointer none), 1, 8) := by kernel_rfl
theorem one_new' (w : World) (x : Value) (t : TypeId) (k : Nat) (hk : k = w.heap.size) : ∀ j u, [x][j]? = some u → (w.alloc (.cells #[x] t)).cell? ((⟨k, 0, none⟩ : Addr).add j) = some u := by
  subst hk; exact cell_one_new w x t
end Go.Proofs.YbulkbuxwDoor
