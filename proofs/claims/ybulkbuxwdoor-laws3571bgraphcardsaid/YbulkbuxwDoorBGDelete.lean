/-
  slices.Delete of one edge.
-/
import Derived.Test.YbulkbuxwDoorBGDelMid
namespace Go.Proofs.YbulkbuxwDoor
open Go.RowKit
set_option linter.unusedVariables false

theorem setCells_none (w : World) (g o : Nat) : w.setCells g o [] = w := rfl

set_option maxHeartbeats 2000000 in
set_option maxRecDepth 100000 in
theorem delete_end (g cap k : Nat) (w : World) (hm : k + 1 ≤ 1000000) (hmc : k + 1 ≤ cap)
    (x : Value) (hc1 : w.drew.cell? ⟨g, k, none⟩ = some x) (hf1 : w.drew.frozen? ⟨g, k, none⟩ = false) :
    Calls Ybad.prog 17 #[.slice (some ⟨g, 0, none⟩) (k + 1) cap, .int .i64 k, .int .i64 ((k : Int) + 1)] w fun r w' => r = .returned (.slice (some ⟨g, 0, none⟩) k cap) ∧ w' = w.drew.setCell ⟨g, k, none⟩ .nilIface := by
  have h1 : ¬ cap = k := by omega
  have h3 : ¬ cap = 0 := by omega
  have h4 : k ≤ cap := by omega
  have h7 : 0 ≤ (k : Int) + 1 := by omega
  obtain ⟨i0, hi, hz0, hz1, hz2⟩ := info_parts info24
  have hcl := fun c => run_clear_one w.drew g k 1 c x rfl hc1 hf1
  have h9 : (k : Int) ≤ (k : Int) + 1 := by omega
  by_cases h2 : cap = k + 1
  · subst h2
    go_enter Ybad.func17, Ybad.ntmps17
    go_wp2_with fail
    go_region_law ((refine step_append_room (by rfl) _ _ 76 (by rfl) 24 i0 1 Ybad.underlying76 hi hz1 g 0 k _ (by rfl) ⟨g, 0, none⟩ 0 0 [] (by rfl) (by rfl) (fun j u hj => by simp at hj) (fun u hu => by simp at hu) (by omega) (fun j hj => by simp at hj) ?_; rw [setCells_none]))
    go_wp2_with fail
    go_ret
    exact ⟨rfl, rfl⟩
  · go_enter Ybad.func17, Ybad.ntmps17
    go_wp2_with fail
    go_region_law ((refine step_append_room (by rfl) _ _ 76 (by rfl) 24 i0 1 Ybad.underlying76 hi hz1 g 0 k cap (by rfl) ⟨g, k + 1, none⟩ 0 (cap - (k + 1)) [] (by rfl) (by rfl) (fun j u hj => by simp at hj) (fun u hu => by simp at hu) (by omega) (fun j hj => by simp at hj) ?_; rw [setCells_none]))
    go_wp2_with fail
    go_ret
    exact ⟨rfl, rfl⟩

/-- What slices.Delete(s, k, k+1) leaves of a row that is owned. -/
def DelPost (w : World) (B g m cap k : Nat) (vs : List Value) (r : Ending) (w' : World) : Prop :=
  r = .returned (.slice (some ⟨g, 0, none⟩) (m - 1) cap) ∧ w'.ownsRow B 24 1 (.slice (some ⟨g, 0, none⟩) (m - 1) cap) (m - 1) (vs.eraseIdx k) ∧ w.grownBy w' (some g)

/-- The row behind it. -/
theorem del_row {B g m cap k : Nat} {vs : List Value} {w : World} {cur cur' : Array Value} {w' : World} (hk : k < m) (hB : B ≤ g) (hmc : m ≤ cap) (hcm : cap ≤ maxLen) (hvl : vs.length = m) (hcs' : cur'.size = cap) (hg' : w'.heap[g]? = some (.cells cur' 24 (0, 0)))
    (hcur : ∀ i, i < m → cur[i]? = vs[i]?) (hat : ∀ i, i < m - 1 → cur'[i]? = if i < k then cur[i]? else cur[i + 1]?) : w'.ownsRow B 24 1 (.slice (some ⟨g, 0, none⟩) (m - 1) cap) (m - 1) (vs.eraseIdx k) := by
  have hl : (vs.eraseIdx k).length = m - 1 := by rw [List.length_eraseIdx, if_pos (by omega)]; omega
  refine ⟨by omega, .inr ⟨g, cap, cur', rfl, hB, hg', by omega, hcm, by omega, ?_⟩⟩
  apply List.ext_getElem?
  intro i
  by_cases hi : i < m - 1
  · rw [List.getElem?_take_of_lt (by omega), Array.getElem?_toList, hat i hi, List.getElem?_eraseIdx]
    by_cases h1 : i < k
    · rw [if_pos h1, if_pos h1, hcur i (by omega)]
    · rw [if_neg h1, if_neg h1, hcur (i + 1) (by omega)]
  · rw [List.getElem?_eq_none (by simp; omega), List.getElem?_eq_none (by omega)]

theorem delete_any (g m cap k B : Nat) (vs : List Value) (w : World) (hm : m ≤ 1000000) (hk : k < m) (h : w.ownsRow B 24 1 (.slice (some ⟨g, 0, none⟩) m cap) m vs) (h1 : ∀ v ∈ vs, v.oneCell' = true) :
    Calls Ybad.prog 17 #[.slice (some ⟨g, 0, none⟩) m cap, .int .i64 k, .int .i64 ((k : Int) + 1)] w fun r w' => DelPost w B g m cap k vs r w' := by
  obtain ⟨hl, h0 | ⟨g', cap', cur, e, hB, hg, hmc, hcm, hcs, htk⟩⟩ := h
  · exact absurd h0.1 (by simp)
  simp only [Value.slice.injEq, Option.some.injEq, Addr.mk.injEq, and_true, true_and] at e
  obtain ⟨rfl, rfl⟩ := e
  simp only [Nat.mul_one] at hl hcs htk
  have hgd : w.drew.heap[g]? = some (.cells cur 24 (0, 0)) := hg
  have hcur : ∀ i, i < m → cur[i]? = vs[i]? := fun i hi => by
    rw [← htk, List.getElem?_take_of_lt hi, Array.getElem?_toList]
  have hfz : ∀ (W : World) (c : Array Value) (o : Nat), W.heap[g]? = some (.cells c 24 (0, 0)) → W.frozen? ⟨g, o, none⟩ = false := fun W c o hW => by simp [World.frozen?, hW]
  have gd : w.grownBy w.drew (some g) := ⟨rfl, rfl, rfl, Nat.le_refl _, fun _ _ _ => rfl⟩
  by_cases hend : k + 1 = m
  · subst hend
    obtain ⟨x, hx⟩ : ∃ x, cur[k]? = some x := ⟨_, Array.getElem?_eq_getElem (by omega)⟩
    refine (delete_end g cap k w hm hmc x (by rw [cell_of_row _ _ _ _ _ _ hgd]; exact hx) (hfz _ _ _ hgd)).mono ?_
    rintro r w' ⟨rfl, rfl⟩
    refine ⟨by simp, ?_, grownBy_trans' gd (grownBy_setCell _ _ _ _)⟩
    refine del_row (w := w) (cur := cur) hk hB hmc hcm hl (by simp [hcs]) (heap_setCell_same _ _ _ _ _ _ hgd) hcur (fun i hi => ?_)
    have h2 : i < k := by omega
    rw [if_pos h2, Array.getElem?_setIfInBounds, if_neg (by omega)]
  · have hnl : ((vs.drop (k + 1))).length = (m - (k + 1)) * 1 := by simp [hl]
    obtain ⟨cur1, b1, b2, b3, b4⟩ := setCells_block g 24 (vs.drop (k + 1)) (0 + k * 1) w.drew cur hgd (by omega)
    obtain ⟨x, hx⟩ : ∃ x, cur1[m - 1]? = some x := ⟨_, Array.getElem?_eq_getElem (by omega)⟩
    refine (delete_mid g m cap k (vs.drop (k + 1)) w _ hm (by omega) hmc hnl ?_ (fun u hu => h1 u (List.mem_of_mem_drop hu)) ?_ rfl x (by rw [cell_of_row _ _ _ _ _ _ b1]; exact hx) (hfz _ _ _ b1)).mono ?_
    · intro j u hu
      have hadd : (⟨g, k + 1, none⟩ : Addr).add j = ⟨g, k + 1 + j, none⟩ := by unfold Addr.add; split <;> simp_all
      rw [List.getElem?_drop] at hu
      have hj : k + 1 + j < m := by
        have := (List.getElem?_eq_some_iff.1 hu).1
        omega
      rw [hadd, cell_of_row _ _ _ _ _ _ hgd, hcur _ hj]
      exact hu
    · intro j hj
      rw [cell_of_row _ _ _ _ _ _ hgd, Array.getElem?_eq_getElem (by omega)]
      exact ⟨rfl, hfz _ _ _ hgd⟩
    · rintro r w' ⟨rfl, rfl⟩
      refine ⟨rfl, ?_, grownBy_trans' gd (grownBy_trans' b4 (grownBy_setCell _ _ _ _))⟩
      refine del_row (w := w) (cur := cur) hk hB hmc hcm hl (by simp [hcs, b2]) (heap_setCell_same _ _ _ _ _ _ b1) hcur (fun i hi => ?_)
      rw [Array.getElem?_setIfInBounds, if_neg (by omega), b3 i]
      by_cases h2 : i < k
      · rw [if_pos h2, if_neg (by omega)]
      · rw [if_neg h2, if_pos (by omega), List.getElem?_drop, hcur (i + 1) (by omega)]
        congr 1
        omega
end Go.Proofs.YbulkbuxwDoor
