/-
  THE INDUCTION over the tokens left; zzs3571btree by its contract.
-/
import Derived.Test.YbulkbuxwDoorBTuple
import Derived.WalkSmall
namespace Go.Proofs.YbulkbuxwDoor
open Go.RowKit

theorem Tree.succ {w : World} {lo : Nat} : ∀ (f : Nat) (v : Value) (e : List Norm), Tree w lo f v e → Tree w lo (f + 1) v e
  | 0, _, _, h => h.elim
  | f + 1, v, e, h => by
    have ih := Tree.succ (w := w) (lo := lo) f
    rcases h with h | h | ⟨b, v1, v2, e1, e2, h1, h2, h3, h4, h5, h6⟩ | ⟨b, g, r, c, m, cp, cs, es, h1, h2, h3, h4, h5, h6, h7, h8, h9⟩
    · exact .inl h
    · exact .inr (.inl h)
    · exact .inr (.inr (.inl ⟨b, v1, v2, e1, e2, h1, h2, h3, ih _ _ h4, ih _ _ h5, h6⟩))
    · exact .inr (.inr (.inr ⟨b, g, r, c, m, cp, cs, es, h1, h2, h3, h4, h5, h6, h7, fun j hj => by
        obtain ⟨vj, a1, a2⟩ := h8 j hj
        exact ⟨vj, a1, ih _ _ a2⟩, h9⟩))
theorem Tree.more {w : World} {lo f : Nat} {v : Value} {e : List Norm} (h : Tree w lo f v e) : ∀ k, Tree w lo (f + k) v e
  | 0 => h
  | k + 1 => Tree.succ _ _ _ (h.more k)
theorem BuildPost.more {w w' : World} {B bi bo i : Nat} {e e' : List Norm} {r : Ending} (f : Nat) (h : BuildPost w B bi bo 1 i e e' r w') : BuildPost w B bi bo (f + 1) i e e' r w' := by
  obtain ⟨v, h1, h2, h3⟩ := h
  exact ⟨v, h1, by have := h2.more f; rwa [Nat.add_comm] at this, h3⟩

theorem build_all (ta : Option Addr) (n tc : Nat) (row : Int) (B bi bo : Nat) (T : Toks) (hn : n ≤ 300) : ∀ f, BuildSaid ta n tc row B bi bo T f
  | 0 => by
    intro i e w h1 h2 hst he _
    obtain rfl : i = n := by omega
    exact build_end ta i tc row B bi bo e w hst (by omega)
  | f + 1 => by
    intro i e w h1 h2 hst he htok
    by_cases h0 : n ≤ i
    · obtain rfl : i = n := by omega
      refine (build_end ta i tc row B bi bo e w hst (by omega)).mono fun r w' h => ?_
      have e1 : encF T i (f + 1) i = ([(0, 0, nils)], i) := by rw [encF, if_pos h0]
      rw [e1]
      exact h.more (f + 1)
    have ih := build_all ta n tc row B bi bo T hn f
    obtain ⟨tb, to, rfl, hB, c0, c1, c2, k0, k1⟩ := htok i (by omega)
    by_cases hk0 : T.kind i % 4 = 0
    · refine (build_num tb to n tc i (T.kind i) (T.val i) (T.str i) row B bi bo e w hn hst (by omega) (by omega) c0 c1 c2 k0 k1 hk0).mono fun r w' h => ?_
      have e1 : encF T n (f + 1) i = ([(0, T.val i, nils)], i + 1) := by rw [encF, if_neg h0, if_pos hk0]
      rw [e1]
      exact h.more (f + 1)
    by_cases hk1 : T.kind i % 4 = 1
    · refine (build_name tb to n tc i (T.kind i) (T.val i) (T.str i) row B bi bo e w hn hst (by omega) (by omega) c0 c1 c2 k0 k1 hk1).mono fun r w' h => ?_
      have e1 : encF T n (f + 1) i = ([(1, 0, T.str i)], i + 1) := by rw [encF, if_neg h0, if_neg hk0, if_pos hk1]
      rw [e1]
      exact h.more (f + 1)
    by_cases hk2 : T.kind i % 4 = 2
    · refine (build_apply tb to n tc i T f (T.kind i) (T.val i) (T.str i) row B bi bo e w hn hst he (by omega) h2 ih htok c0 c1 c2 k0 k1 hk2).mono fun r w' h => ?_
      have e1 : encF T n (f + 1) i = ((2, 0, nils) :: (encMany (encF T n f) 2 (i + 1)).1, (encMany (encF T n f) 2 (i + 1)).2) := by rw [encF, if_neg h0, if_neg hk0, if_neg hk1, if_pos hk2]
      rw [e1]
      exact h
    · refine (build_tuple tb to n tc i T f (arity (T.val i)) (T.kind i) (T.val i) (T.str i) row B bi bo e w hn hst he (by omega) h2 ih htok c0 c1 c2 k0 k1 (by omega) rfl).mono fun r w' h => ?_
      have e1 : encF T n (f + 1) i = ((3, (arity (T.val i) : Int), nils) :: (encMany (encF T n f) (arity (T.val i)) (i + 1)).1, (encMany (encF T n f) (arity (T.val i)) (i + 1)).2) := by rw [encF, if_neg h0, if_neg hk0, if_neg hk1, if_neg hk2]
      rw [e1]
      exact h

/-- What zzs3571btree leaves: the tree and its encoding in a slice of its own. -/
def TreePost (w : World) (f : Nat) (e : List Norm) (r : Ending) (w' : World) : Prop :=
  ∃ v g cap, r = .returned (.tuple #[v, .slice (some ⟨g, 0, none⟩) e.length cap]) ∧ Tree w' w.heap.size f v e ∧ w'.ownsRow w.heap.size 31 3 (.slice (some ⟨g, 0, none⟩) e.length cap) e.length (encCells e) ∧ Below w.heap.size w w' ∧ w.heap.size ≤ w'.heap.size

theorem own_len {w : World} {B : Nat} {e : List Norm} {v : Value} (h : w.ownsRow B 31 3 v e.length (encCells e)) {f : Nat} (hw : WfE f e) : ∃ g c, v = .slice (some ⟨g, 0, none⟩) e.length c := by
  match f, hw with
  | _ + 1, ⟨x, es, _, _, he⟩ =>
    subst he
    exact own_shape (n := es.flatten.length) h

theorem tree_start (w : World) : St ((w.alloc (.cells #[.slice none 0 0] 25)).alloc (.cells #[.int .i64 0] 3)) w.heap.size (w.heap.size + 1) w.heap.size 0 [] ∧ Below w.heap.size w ((w.alloc (.cells #[.slice none 0 0] 25)).alloc (.cells #[.int .i64 0] 3)) := by
  refine ⟨⟨?_, ⟨none, 0, 0, ?_, World.ownsRow_nil _ _ _ _⟩, by omega, Nat.le_refl _⟩, ((Below.refl _ w).alloc (Nat.le_refl _) _).alloc (by simp) _⟩
  · have : w.heap.size + 1 = (w.alloc (.cells #[.slice none 0 0] 25)).heap.size := by simp
    rw [this]; exact heap_alloc_new _ _
  · rw [Below.heap_alloc _ _ _ (by simp)]; exact heap_alloc_new w _

set_option maxHeartbeats 400000 in
set_option maxRecDepth 100000 in
theorem tree_any (ta : Option Addr) (n tc : Nat) (row : Int) (T : Toks) (w : World) (F : Nat) (hn : n ≤ 300) (hF : n ≤ F) (htok : TokAt w w.heap.size ta n T) :
    Calls Ybad.prog 8 #[.slice ta n tc, .int .i64 row] w fun r w' => TreePost w (F + 1) (encF T n F 0).1 r w' := by
  obtain ⟨st0, bel0⟩ := tree_start w
  have bd := encF_bd T n F 0 (Nat.zero_le _)
  have HB := build_all ta n tc row w.heap.size (w.heap.size + 1) w.heap.size T hn F 0 [] _ (Nat.zero_le _) (by omega) st0 (by simp; omega) (htok.below bel0)
  generalize encF T n F 0 = p at *
  obtain ⟨e, j⟩ := p
  have HBh : Hid (Calls Ybad.prog 12 #[.slice ta n tc, .pointer (some ⟨w.heap.size + 1, 0, none⟩), .int .i64 row, .pointer (some ⟨w.heap.size, 0, none⟩)] ((w.alloc (.cells #[.slice none 0 0] 25)).alloc (.cells #[.int .i64 0] 3)) fun r w' =>
    BuildPost ((w.alloc (.cells #[.slice none 0 0] 25)).alloc (.cells #[.int .i64 0] 3)) w.heap.size (w.heap.size + 1) w.heap.size (F + 1) j [] e r w') := HB
  clear HB bd
  go_enter Ybad.func8, Ybad.ntmps8
  go_wp2_with fail
  refine HBh.out.mono ?_
  rintro r w' ⟨v, rfl, tr, st, bel, kep⟩
  obtain ⟨u, p, rfl⟩ := tr.shape
  obtain ⟨a, len, cap, hob, hown⟩ := st.ob
  rw [List.nil_append] at hown
  obtain ⟨g, c, hgc⟩ := own_len hown (tr.wf)
  rw [hgc] at hob hown
  have co := cell_of_one hob
  have hz := kep.size
  have hz2 : w.heap.size ≤ w'.heap.size := Nat.le_trans (by simp; omega) hz
  have TR := tr.low (lo' := w.heap.size) (by simp; omega)
  have BEL := bel0.trans bel
  clear hgc hob st0 st hz bel bel0 kep tr HBh
  go_wp2_with fail
  go_quiet (fail)
  go_wp2_with fail
  go_ret2
  exact ⟨.iface u (.pointer (some ⟨p, 0, none⟩)), g, c, rfl, TR.kept ((Kept.refl _).drewN _), hown, below_drewN BEL _, hz2⟩
end Go.Proofs.YbulkbuxwDoor
