/-
  sameEdge over any two trees: by induction on the first.
-/
import Derived.Test.YbulkbuxwDoorBSame2
namespace Go.Proofs.YbulkbuxwDoor
open Go.RowKit

theorem bytes_beq (s s' : ByteArray) : (s.toList == s'.toList) = decide (s = s') := by
  rw [Bool.eq_iff_iff]
  simp only [beq_iff_eq, decide_eq_true_eq]
  refine ⟨fun h => ?_, fun h => by rw [h]⟩
  rw [ByteArray.toList_eq, ByteArray.toList_eq] at h
  exact WideShapes.bytes_inj h

theorem eqE_num (n n' : Int) : eqE [(0, n, nils)] [(0, n', nils)] = (n == n') := by
  rw [Bool.eq_iff_iff]; simp [eqE]
theorem eqE_name (s s' : ByteArray) : eqE [(1, 0, s)] [(1, 0, s')] = (s.toList == s'.toList) := by
  rw [bytes_beq, Bool.eq_iff_iff]; simp [eqE]
theorem eqE_apply {f f' : Nat} {e1 e2 e1' e2' : List Norm} (h1 : WfE f e1) (h1' : WfE f' e1') : eqE ((2, 0, nils) :: (e1 ++ e2)) ((2, 0, nils) :: (e1' ++ e2')) = (eqE e1 e1' && eqE e2 e2') := by
  rw [Bool.eq_iff_iff]
  simp only [eqE, decide_eq_true_eq, Bool.and_eq_true, List.cons.injEq, true_and]
  refine ⟨fun h => wf_prefix _ _ _ _ _ _ h1 h1' h, fun ⟨a, b⟩ => by rw [a, b]⟩
theorem eqE_tuple {f f' m : Nat} {es es' : List (List Norm)} (hl : es.length = m) (hl' : es'.length = m) (h : ∀ j, j < m → WfE f (es.getD j [])) (h' : ∀ j, j < m → WfE f' (es'.getD j [])) :
    eqE ((3, (m : Int), nils) :: es.flatten) ((3, (m : Int), nils) :: es'.flatten) = true ↔ ∀ i, i < m → eqE (es.getD i []) (es'.getD i []) = true := by
  simp only [eqE, decide_eq_true_eq, List.cons.injEq, true_and]
  refine ⟨fun hh i _ => ?_, fun hh => ?_⟩
  · have := wf_many (f := f) (f' := f') es es' [] [] (hl.trans hl'.symm) (fun y hy => by
      obtain ⟨j, hj, rfl⟩ := List.mem_iff_getElem.1 hy
      have := h j (by omega)
      simpa [List.getD_eq_getElem?_getD, hj] using this) (fun y hy => by
      obtain ⟨j, hj, rfl⟩ := List.mem_iff_getElem.1 hy
      have := h' j (by omega)
      simpa [List.getD_eq_getElem?_getD, hj] using this) (by simpa using hh)
    rw [this.1]
  · have : es = es' := by
      apply List.ext_getElem (hl.trans hl'.symm)
      intro i h1 h2
      have := hh i (by omega)
      simpa [List.getD_eq_getElem?_getD, h1, h2] using this
    rw [this]
theorem eqE_head {x x' : Norm} {r r' : List Norm} (h : x.1 ≠ x'.1) : eqE (x :: r) (x' :: r') = false := by
  simp only [eqE, decide_eq_false_iff_not, List.cons.injEq]
  rintro ⟨e, _⟩
  exact h (by rw [e])

/-- The answer in one world. -/
def SameIn (w : World) (v v' : Value) (a : Bool) : Prop := Calls Ybad.prog 9 #[v, v'] w fun r w' => r = .returned (.bool a) ∧ ∃ m, w' = w.drewN m
theorem SameIn.of {w : World} {v v' : Value} {a a' : Bool} (h : Calls Ybad.prog 9 #[v, v'] w fun r w' => r = .returned (.bool a) ∧ ∃ m, w' = w.drewN m) (e : a' = a) : SameIn w v v' a' := by subst e; exact h

theorem same_all : ∀ (f f' lo lo' : Nat) (v v' : Value) (e e' : List Norm) (w : World), Tree w lo f v e → Tree w lo' f' v' e' → SameIn w v v' (eqE e e')
  | 0, _, _, _, _, _, _, _, _, h, _ => h.elim
  | _ + 1, 0, _, _, _, _, _, _, _, _, h => h.elim
  | f + 1, f' + 1, lo, lo', v, v', e, e', w, h, h' => by
    have ih : ∀ (v v' : Value) (e e' : List Norm), Tree w lo f v e → Tree w lo' f' v' e' → SameAt w v v' (eqE e e') := fun v v' e e' h h' n =>
      same_all f f' lo lo' v v' e e' (w.drewN n) (h.kept ((Kept.refl w).drewN n)) (h'.kept ((Kept.refl w).drewN n))
    rcases h with ⟨b, r, c, n, rfl, _, hb, rfl⟩ | ⟨b, r, c, s, rfl, _, hb, rfl⟩ | ⟨b, v1, v2, e1, e2, rfl, _, hb, t1, t2, rfl⟩ | ⟨b, g, r, c, m, cp, cs, es, rfl, _, hb, _, hg, hm, hel, hes, rfl⟩ <;>
    rcases h' with ⟨b', r', c', n', rfl, _, hb', rfl⟩ | ⟨b', r', c', s', rfl, _, hb', rfl⟩ | ⟨b', v1', v2', e1', e2', rfl, _, hb', t1', t2', rfl⟩ | ⟨b', g', r', c', m', cp', cs', es', rfl, _, hb', _, hg', hm', hel', hes', rfl⟩
    · exact .of (same_num b b' n n' w (by simp [World.cell?, hb]) (by simp [World.cell?, hb'])) (eqE_num n n')
    · exact .of (miss_53_47 b b' w) (eqE_head (by simp))
    · exact .of (miss_53_52 b b' w) (eqE_head (by simp))
    · exact .of (miss_53_74 b b' w) (eqE_head (by simp))
    · exact .of (miss_47_53 b b' w) (eqE_head (by simp))
    · exact .of (same_name b b' s s' w (by simp [World.cell?, hb]) (by simp [World.cell?, hb'])) (eqE_name s s')
    · exact .of (miss_47_52 b b' w) (eqE_head (by simp))
    · exact .of (miss_47_74 b b' w) (eqE_head (by simp))
    · exact .of (miss_52_53 b b' w) (eqE_head (by simp))
    · exact .of (miss_52_47 b b' w) (eqE_head (by simp))
    · have c1 : w.cell? ⟨b, 0, none⟩ = some v1 := by simp [World.cell?, hb]
      have c2 : w.cell? ⟨b, 1, none⟩ = some v2 := by simp [World.cell?, hb]
      have c1' : w.cell? ⟨b', 0, none⟩ = some v1' := by simp [World.cell?, hb']
      have c2' : w.cell? ⟨b', 1, none⟩ = some v2' := by simp [World.cell?, hb']
      have s1 := ih v1 v1' e1 e1' t1 t1'
      have s2 := ih v2 v2' e2 e2' t2 t2'
      have ee := eqE_apply (e2 := e2) (e2' := e2') t1.wf t1'.wf
      cases hq : eqE e1 e1'
      · rw [hq] at s1 ee
        exact .of (same_apply_no b b' v1 v1' w c1 c1' s1) ee
      · rw [hq] at s1 ee
        exact .of (same_apply_yes b b' v1 v2 v1' v2' (eqE e2 e2') w c1 c2 c1' c2' s1 s2) ee
    · exact .of (miss_52_74 b b' w) (eqE_head (by simp))
    · exact .of (miss_74_53 b b' w) (eqE_head (by simp))
    · exact .of (miss_74_47 b b' w) (eqE_head (by simp))
    · exact .of (miss_74_52 b b' w) (eqE_head (by simp))
    · have c1 : w.cell? ⟨b, 2, none⟩ = some (.slice (some ⟨g, 0, none⟩) m cp) := by simp [World.cell?, hb]
      have c1' : w.cell? ⟨b', 2, none⟩ = some (.slice (some ⟨g', 0, none⟩) m' cp') := by simp [World.cell?, hb']
      by_cases hmm : m = m'
      · subst hmm
        refine .of (tuple_eq b b' g g' m cp cp' (fun i => cs[i]?.getD .nilIface) (fun i => cs'[i]?.getD .nilIface) (fun i => eqE (es.getD i []) (es'.getD i [])) _ w c1 c1' hm (fun i hi => ?_) (fun i hi => ?_) (fun i hi => ?_)
          (eqE_tuple hel hel' (fun j hj => by obtain ⟨_, _, t⟩ := hes j hj; exact t.wf) (fun j hj => by obtain ⟨_, _, t⟩ := hes' j hj; exact t.wf))) rfl
        · obtain ⟨vj, a1, _⟩ := hes i hi
          simp [World.cell?, hg, a1]
        · obtain ⟨vj, a1, _⟩ := hes' i hi
          simp [World.cell?, hg', a1]
        · obtain ⟨vj, a1, a2⟩ := hes i hi
          obtain ⟨vj', a1', a2'⟩ := hes' i hi
          simp only [a1, a1', Option.getD_some]
          exact ih _ _ _ _ a2 a2'
      · refine .of (tuple_len b b' _ _ m cp m' cp' w c1 c1' (by rw [bne_iff_ne]; omega)) ?_
        simp only [eqE, decide_eq_false_iff_not, List.cons.injEq, Prod.mk.injEq, true_and]
        rintro ⟨⟨e, _⟩, _⟩
        omega
end Go.Proofs.YbulkbuxwDoor
