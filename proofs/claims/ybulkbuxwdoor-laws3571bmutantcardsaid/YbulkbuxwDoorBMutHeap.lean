/-
  The copied row of tokens: as cells; with one token changed. No walk in this text.
-/
import Derived.Test.YbulkbuxwDoorBModelWalk
namespace Go.Proofs.YbulkbuxwDoor
open Go.RowKit

def tcell (T : Toks) (j : Nat) : Nat → Value
  | 0 => .int .u8 (T.kind j)
  | 1 => .int .i64 (T.val j)
  | _ => .string (T.str j)
/-- The cells of n tokens. -/
def tcells (T : Toks) (n : Nat) : List Value := (List.range (n * 3)).map fun q => tcell T (q / 3) (q % 3)
theorem tcells_len (T : Toks) (n : Nat) : (tcells T n).length = n * 3 := by simp [tcells]
theorem tcells_at (T : Toks) (n j : Nat) (r : Nat) (hj : j < n) (hr : r < 3) : (tcells T n)[j * 3 + r]? = some (tcell T j r) := by
  have h1 : j * 3 + r < n * 3 := by omega
  have h2 : (j * 3 + r) / 3 = j := by omega
  have h3 : (j * 3 + r) % 3 = r := by omega
  simp [tcells, h1, h2, h3]
theorem tcells_one (T : Toks) (n : Nat) : ∀ v ∈ tcells T n, v.oneCell' = true := by
  intro v hv
  simp only [tcells, List.mem_map] at hv
  obtain ⟨q, _, rfl⟩ := hv
  have : q % 3 < 3 := by omega
  match q % 3, this with
  | 0, _ => rfl
  | 1, _ => rfl
  | 2, _ => rfl
theorem tcells_src {w : World} {B : Nat} {ta : Option Addr} {n : Nat} {T : Toks} (h : TokAt w B ta n T) : 0 < n → ∃ ad, ta = some ad ∧ ∀ j v, (tcells T n)[j]? = some v → w.cell? (ad.add j) = some v := by
  intro hn
  obtain ⟨tb, to, rfl, _⟩ := h 0 hn
  refine ⟨_, rfl, fun j v hj => ?_⟩
  have hlt : j < n * 3 := by
    have := (List.getElem?_eq_some_iff.1 hj).1
    rwa [tcells_len] at this
  obtain ⟨tb', to', e, _, c0, c1, c2, _⟩ := h (j / 3) (by omega)
  injection e with e
  injection e with e1 e2
  subst e1 e2
  have hadd : (⟨tb, to, none⟩ : Addr).add j = ⟨tb, to + j, none⟩ := by unfold Addr.add; split <;> simp_all
  rw [hadd]
  have hr : j % 3 = 0 ∨ j % 3 = 1 ∨ j % 3 = 2 := by omega
  have hat := tcells_at T n (j / 3) (j % 3) (by omega) (by omega)
  have hjj : j / 3 * 3 + j % 3 = j := by omega
  rw [hjj, hj] at hat
  injection hat with hat
  subst hat
  rcases hr with h0 | h0 | h0 <;> rw [h0] <;> simp only [tcell]
  · rw [← c0]; congr 2; omega
  · rw [← c1]; congr 2; omega
  · rw [← c2]; congr 2; omega

/-- A row of a block of its own that holds the tokens. -/
theorem tok_row {w : World} {B g n : Nat} {T : Toks} (hg : w.heap[g]? = some (.cells (tcells T n).toArray 35 (0, 0))) (hB : g < B) (hk : ∀ j, j < n → 0 ≤ T.kind j ∧ T.kind j ≤ 255) : TokAt w B (some ⟨g, 0, none⟩) n T := fun j hj => by
  have at_ : ∀ r, r < 3 → w.cell? ⟨g, 0 + j * 3 + r, none⟩ = some (tcell T j r) := fun r hr => by
    have := tcells_at T n j r hj hr
    simp [World.cell?, hg, this]
  exact ⟨g, 0, rfl, hB, at_ 0 (by omega), at_ 1 (by omega), at_ 2 (by omega), hk j hj⟩

/-- One token changed. -/
def Toks.put (T : Toks) (k : Nat) (K V : Int) (S : ByteArray) : Toks := ⟨fun i => if i = k then K else T.kind i, fun i => if i = k then V else T.val i, fun i => if i = k then S else T.str i⟩
theorem tok_put {w : World} {B g n k : Nat} {T : Toks} {K V : Int} {S : ByteArray} (h : TokAt w B (some ⟨g, 0, none⟩) n T) (hk : k < n) (k0 : 0 ≤ K) (k1 : K ≤ 255) :
    TokAt (((w.setCell ⟨g, k * 3, none⟩ (.int .u8 K)).setCell ⟨g, k * 3 + 1, none⟩ (.int .i64 V)).setCell ⟨g, k * 3 + 2, none⟩ (.string S)) B (some ⟨g, 0, none⟩) n (T.put k K V S) := fun j hj => by
  have ne : ∀ {w : World} {i j : Nat} {v : Value}, i ≠ j → (w.setCell ⟨g, i, none⟩ v).cell? ⟨g, j, none⟩ = w.cell? ⟨g, j, none⟩ := fun h => World.cell?_setCell_other _ _ _ _ (fun e => h (by injection e))
  obtain ⟨tb, to, e, hB, c0, c1, c2, b0, b1⟩ := h j hj
  injection e with e
  injection e with e1 e2
  subst e1 e2
  refine ⟨g, 0, rfl, hB, ?_, ?_, ?_, ?_⟩
  · by_cases hjk : j = k
    · subst hjk
      rw [ne (by omega), ne (by omega), Nat.zero_add] at *
      simp only [Toks.put, if_true]
      exact World.cell?_setCell_same _ _ _ c0
    · rw [ne (by omega), ne (by omega), ne (by omega)]
      simpa [Toks.put, hjk] using c0
  · by_cases hjk : j = k
    · subst hjk
      rw [Nat.zero_add] at *
      rw [ne (by omega)]
      simp only [Toks.put, if_true]
      exact World.cell?_setCell_same _ _ _ (by rw [ne (by omega)]; exact c1)
    · rw [ne (by omega), ne (by omega), ne (by omega)]
      simpa [Toks.put, hjk] using c1
  · by_cases hjk : j = k
    · subst hjk
      rw [Nat.zero_add] at *
      simp only [Toks.put, if_true]
      exact World.cell?_setCell_same _ _ _ (by rw [ne (by omega), ne (by omega)]; exact c2)
    · rw [ne (by omega), ne (by omega), ne (by omega)]
      simpa [Toks.put, hjk] using c2
  · by_cases hjk : j = k
    · simp [Toks.put, hjk, k0, k1]
    · simp [Toks.put, hjk, b0, b1]
end Go.Proofs.YbulkbuxwDoor
