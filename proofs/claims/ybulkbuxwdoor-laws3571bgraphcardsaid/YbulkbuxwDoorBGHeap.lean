/-
  GRAPHS IN MEMORY, and what sameGraph has written midway.
-/
import Derived.Test.YbulkbuxwDoorBModelWalk
import Derived.Test.YbulkbuxwDoorBGPlain
import Derived.Test.YbulkbuxwDoorBGMap
import Derived.Test.YbulkbuxwDoorBGRow
namespace Go.Proofs.YbulkbuxwDoor
open Go.RowKit
set_option linter.unusedVariables false

/-- An entry that lies in memory: a pattern that is a name, an edge that is a tree. -/
def EntryAt (F : Nat) (w : World) (v : Value) (x : Ent) : Prop :=
  ∃ (p q : Nat) (r c r' c' ev : Value), v = .pointer (some ⟨p, 0, none⟩) ∧ w.heap[p]? = some (.cells #[r, c, .iface 47 (.pointer (some ⟨q, 0, none⟩)), ev] 51 (0, 0)) ∧
    w.heap[q]? = some (.cells #[r', c', .string x.1] 49 (0, 0)) ∧ Tree w 0 F ev x.2

/-- A graph that lies in memory. -/
def GraphAt (F : Nat) (w : World) (B b : Nat) (xs : List Ent) : Prop :=
  ∃ (r c : Value) (a : Option Addr) (cap : Nat) (vs : List Value), w.heap[b]? = some (.cells #[r, c, .slice a xs.length cap] 45 (0, 0)) ∧ w.ownsRow B 46 1 (.slice a xs.length cap) xs.length vs ∧
    ∀ (j : Nat) (x : Ent), xs[j]? = some x → ∃ v, vs[j]? = some v ∧ EntryAt F w v x

/-- Blocks that were there are as they were, but for those of the types 45 and 46. -/
structure KeptG (w w' : World) : Prop where
  size : w.heap.size ≤ w'.heap.size
  node : ∀ (k : Nat) (c : Array Value) (t : TypeId), t ≠ 45 → t ≠ 46 → w.heap[k]? = some (.cells c t (0, 0)) → w'.heap[k]? = some (.cells c t (0, 0))

theorem KeptG.trans {a b c : World} (h : KeptG a b) (k : KeptG b c) : KeptG a c := ⟨Nat.le_trans h.size k.size, fun i x t h1 h2 hi => k.node i x t h1 h2 (h.node i x t h1 h2 hi)⟩
theorem KeptG.below {w w' : World} (hs : w.heap.size ≤ w'.heap.size) (b : Below w.heap.size w w') : KeptG w w' := ⟨hs, fun k _ _ _ _ hk => (b.block k (lt_of_block hk)).trans hk⟩
theorem KeptG.drew (w : World) : KeptG w w.drew := ⟨Nat.le_refl _, fun _ _ _ _ _ h => h⟩
theorem KeptG.alloc (w : World) (o : Obj) : KeptG w (w.alloc o) := ⟨by simp, fun k c t _ _ hk => by rw [Below.heap_alloc w o k (lt_of_block hk)]; exact hk⟩
theorem KeptG.setCell {w : World} {b : Nat} {c : Array Value} (hb : w.heap[b]? = some (.cells c 45 (0, 0))) (o : Nat) (u : Value) : KeptG w (w.setCell ⟨b, o, none⟩ u) :=
  ⟨by rw [size_setCell]; exact Nat.le_refl _, fun k c' t h1 h2 hk => by
    rw [heap_setCell_other w _ k u (fun e => ?_)]
    · exact hk
    · have e' : k = b := e
      subst e'
      rw [hb] at hk
      injection hk with hk
      injection hk with h3 h4
      exact h1 h4.symm⟩
theorem KeptG.grown {w w' : World} {row : Option Nat} (hg : w.grownBy w' row) (hrow : ∀ k, row = some k → ∃ c, w.heap[k]? = some (.cells c 46 (0, 0))) : KeptG w w' :=
  ⟨hg.size, fun k c t h1 h2 hk => by
    rw [hg.block k (lt_of_block hk) (fun e => ?_)]
    · exact hk
    · obtain ⟨c', h3⟩ := hrow k e.symm
      rw [hk] at h3
      injection h3 with h3
      injection h3 with h4 h5
      exact h2 h5⟩

theorem Tree.carry {w w' : World} (h : KeptG w w') : ∀ (f : Nat) (v : Value) (e : List Norm), Tree w 0 f v e → Tree w' 0 f v e
  | 0, _, _, ht => ht.elim
  | f + 1, v, e, ht => by
    have ih := Tree.carry h f
    rcases ht with ⟨b, r, c, n, h1, h2, h3, h4⟩ | ⟨b, r, c, s, h1, h2, h3, h4⟩ | ⟨b, v1, v2, e1, e2, h1, h2, h3, h4, h5, h6⟩ | ⟨b, g, r, c, m, cp, cs, es, h1, h2, h3, h4, h5, h6, h7, h8, h9⟩
    · exact .inl ⟨b, r, c, n, h1, h2, h.node b _ 55 (by decide) (by decide) h3, h4⟩
    · exact .inr (.inl ⟨b, r, c, s, h1, h2, h.node b _ 49 (by decide) (by decide) h3, h4⟩)
    · exact .inr (.inr (.inl ⟨b, v1, v2, e1, e2, h1, h2, h.node b _ 57 (by decide) (by decide) h3, ih _ _ h4, ih _ _ h5, h6⟩))
    · exact .inr (.inr (.inr ⟨b, g, r, c, m, cp, cs, es, h1, h2, h.node b _ 78 (by decide) (by decide) h3, h4, h.node g _ 24 (by decide) (by decide) h5, h6, h7, fun j hj => by
        obtain ⟨vj, a1, a2⟩ := h8 j hj
        exact ⟨vj, a1, ih _ _ a2⟩, h9⟩))

theorem EntryAt.carry {F : Nat} {w w' : World} {v : Value} {x : Ent} (h : EntryAt F w v x) (k : KeptG w w') : EntryAt F w' v x := by
  obtain ⟨p, q, r, c, r', c', ev, h1, h2, h3, h4⟩ := h
  exact ⟨p, q, r, c, r', c', ev, h1, k.node _ _ _ (by decide) (by decide) h2, k.node _ _ _ (by decide) (by decide) h3, Tree.carry k _ _ _ h4⟩

/-- A graph stays while only new blocks are written. -/
theorem GraphAt.below {F : Nat} {w w' : World} {B b : Nat} {xs : List Ent} (h : GraphAt F w B b xs) (hs : w.heap.size ≤ w'.heap.size) (k : Below w.heap.size w w') : GraphAt F w' B b xs := by
  obtain ⟨r, c, a, cap, vs, h1, h2, h3⟩ := h
  refine ⟨r, c, a, cap, vs, (k.block b (lt_of_block h1)).trans h1, own_below h2 k, fun j x hj => ?_⟩
  obtain ⟨v, a1, a2⟩ := h3 j x hj
  exact ⟨v, a1, a2.carry (KeptG.below hs k)⟩

/-- An empty graph. -/
theorem graph_start (w : World) (F B : Nat) (r c : Value) : GraphAt F (w.alloc (.cells #[r, c, .slice none 0 0] 45)) B w.heap.size [] :=
  ⟨r, c, none, 0, [], heap_alloc_new w _, World.ownsRow_nil _ _ _ _, fun j x hj => by simp at hj⟩

/-- ONE ENTRY MORE: what the append and the store leave. -/
theorem graph_step {F : Nat} {w w1 : World} {B b g cap cap' len : Nat} {xs : List Ent} {r c r1 c1 r2 c2 ev : Value} {a : Option Addr} {vs : List Value} {x : Ent} (hlen : len = xs.length)
    (h1 : w.heap[b]? = some (.cells #[r, c, .slice a len cap] 45 (0, 0))) (h2 : w.ownsRow B 46 1 (.slice a len cap) len vs) (h3 : ∀ (j : Nat) (x : Ent), xs[j]? = some x → ∃ v, vs[j]? = some v ∧ EntryAt F w v x) (hBb : B ≤ b) (ht : Tree w 0 F ev x.2)
    (hg : ((((w.alloc (.cells #[r1, c1, .string x.1] 49)).alloc (.cells #[r2, c2, .iface 47 (.pointer (some ⟨w.heap.size, 0, none⟩)), ev] 51)).alloc (.cells #[.pointer (some ⟨w.heap.size + 1, 0, none⟩)] 46)).drew).grownBy w1 (Value.slice a len cap).ownBlock)
    (hown : w1.ownsRow B 46 1 (.slice (some ⟨g, 0, none⟩) (len + 1) cap') (len + 1) (vs ++ [.pointer (some ⟨w.heap.size + 1, 0, none⟩)])) :
    GraphAt F (w1.setCell ⟨b, 2, none⟩ (.slice (some ⟨g, 0, none⟩) (len + 1) cap')) B b (xs ++ [x]) ∧ Below B w (w1.setCell ⟨b, 2, none⟩ (.slice (some ⟨g, 0, none⟩) (len + 1) cap')) ∧ w.heap.size ≤ (w1.setCell ⟨b, 2, none⟩ (.slice (some ⟨g, 0, none⟩) (len + 1) cap')).heap.size ∧
      w1.cell? ⟨b, 2, none⟩ = some (.slice a len cap) ∧ w1.frozen? ⟨b, 2, none⟩ = false := by
  subst hlen
  have hb := lt_of_block h1
  have k0 : KeptG w ((((w.alloc (.cells #[r1, c1, .string x.1] 49)).alloc (.cells #[r2, c2, .iface 47 (.pointer (some ⟨w.heap.size, 0, none⟩)), ev] 51)).alloc (.cells #[.pointer (some ⟨w.heap.size + 1, 0, none⟩)] 46)).drew) :=
    (((KeptG.alloc w _).trans (KeptG.alloc _ _)).trans (KeptG.alloc _ _)).trans (KeptG.drew _)
  have bel0 : Below w.heap.size w ((((w.alloc (.cells #[r1, c1, .string x.1] 49)).alloc (.cells #[r2, c2, .iface 47 (.pointer (some ⟨w.heap.size, 0, none⟩)), ev] 51)).alloc (.cells #[.pointer (some ⟨w.heap.size + 1, 0, none⟩)] 46)).drew) :=
    ((((Below.refl _ w).alloc (Nat.le_refl _) _).alloc (by simp) _).alloc (by simp; omega) _).drew
  have hn0 : ((((w.alloc (.cells #[r1, c1, .string x.1] 49)).alloc (.cells #[r2, c2, .iface 47 (.pointer (some ⟨w.heap.size, 0, none⟩)), ev] 51)).alloc (.cells #[.pointer (some ⟨w.heap.size + 1, 0, none⟩)] 46)).drew).heap[w.heap.size]? = some (.cells #[r1, c1, .string x.1] 49 (0, 0)) := by
    show (((w.alloc (.cells #[r1, c1, .string x.1] 49)).alloc _).alloc _).heap[w.heap.size]? = _
    rw [Below.heap_alloc _ _ _ (by simp; omega), Below.heap_alloc _ _ _ (by simp)]
    exact heap_alloc_new w _
  have he0 : ((((w.alloc (.cells #[r1, c1, .string x.1] 49)).alloc (.cells #[r2, c2, .iface 47 (.pointer (some ⟨w.heap.size, 0, none⟩)), ev] 51)).alloc (.cells #[.pointer (some ⟨w.heap.size + 1, 0, none⟩)] 46)).drew).heap[w.heap.size + 1]? = some (.cells #[r2, c2, .iface 47 (.pointer (some ⟨w.heap.size, 0, none⟩)), ev] 51 (0, 0)) := by
    show (((w.alloc (.cells #[r1, c1, .string x.1] 49)).alloc _).alloc _).heap[w.heap.size + 1]? = _
    rw [Below.heap_alloc _ _ _ (by simp)]
    have e : w.heap.size + 1 = (w.alloc (.cells #[r1, c1, .string x.1] 49)).heap.size := by simp
    rw [e]
    exact heap_alloc_new _ _
  have h20 : ((((w.alloc (.cells #[r1, c1, .string x.1] 49)).alloc (.cells #[r2, c2, .iface 47 (.pointer (some ⟨w.heap.size, 0, none⟩)), ev] 51)).alloc (.cells #[.pointer (some ⟨w.heap.size + 1, 0, none⟩)] 46)).drew).ownsRow B 46 1 (.slice a xs.length cap) xs.length vs := own_below h2 bel0
  have h10 := (bel0.block b hb).trans h1
  have hsz0 := k0.size
  generalize ((((w.alloc (.cells #[r1, c1, .string x.1] 49)).alloc (.cells #[r2, c2, .iface 47 (.pointer (some ⟨w.heap.size, 0, none⟩)), ev] 51)).alloc (.cells #[.pointer (some ⟨w.heap.size + 1, 0, none⟩)] 46)).drew) = W at *
  have hbW : W.heap[b]? = some (.cells #[r, c, .slice a xs.length cap] 45 (0, 0)) := h10
  have hrow : ∀ k, (Value.slice a xs.length cap).ownBlock = some k → B ≤ k ∧ ∃ c, W.heap[k]? = some (.cells c 46 (0, 0)) := fun k hk => own_type h20 hk
  have k1 : KeptG W w1 := KeptG.grown hg (fun k hk => (hrow k hk).2)
  have hb1 : w1.heap[b]? = some (.cells #[r, c, .slice a xs.length cap] 45 (0, 0)) := by
    rw [hg.block b (lt_of_block hbW) (fun e => ?_)]
    · exact hbW
    · obtain ⟨_, c', hc⟩ := hrow b e.symm
      rw [hbW] at hc; simp at hc
  have k2 := KeptG.setCell hb1 2 (.slice (some ⟨g, 0, none⟩) (xs.length + 1) cap')
  have kk := (k0.trans k1).trans k2
  have hne : (Value.slice (some ⟨g, 0, none⟩) (xs.length + 1) cap').ownBlock ≠ some b := fun e' => by
    obtain ⟨_, c', hc⟩ := own_type hown e'
    rw [hb1] at hc; simp at hc
  refine ⟨⟨r, c, some ⟨g, 0, none⟩, cap', vs ++ [.pointer (some ⟨w.heap.size + 1, 0, none⟩)], ?_, ?_, ?_⟩, ?_, kk.size, ?_, ?_⟩
  · have := heap_setCell_same w1 b 2 _ _ (.slice (some ⟨g, 0, none⟩) (xs.length + 1) cap') hb1
    rw [this]
    simp
  · have := ownsRow_setCell_other hown (a := ⟨b, 2, none⟩) hne (.slice (some ⟨g, 0, none⟩) (xs.length + 1) cap')
    simpa using this
  · intro j y hj
    have hvl : vs.length = xs.length := by have := h2.1; omega
    by_cases hjl : j < xs.length
    · rw [List.getElem?_append_left hjl] at hj
      obtain ⟨v, a1, a2⟩ := h3 j y hj
      exact ⟨v, by rw [List.getElem?_append_left (by omega)]; exact a1, a2.carry kk⟩
    · have hj2 : j = xs.length := by
        have := (List.getElem?_eq_some_iff.1 hj).1
        simp at this
        omega
      subst hj2
      rw [List.getElem?_append_right (Nat.le_refl _), Nat.sub_self] at hj
      simp at hj
      subst hj
      refine ⟨.pointer (some ⟨w.heap.size + 1, 0, none⟩), by rw [List.getElem?_append_right (by omega)]; simp [hvl], ?_⟩
      exact ⟨w.heap.size + 1, w.heap.size, r2, c2, r1, c1, ev, rfl, (k1.trans k2).node _ _ _ (by decide) (by decide) he0, (k1.trans k2).node _ _ _ (by decide) (by decide) hn0, Tree.carry kk _ _ _ ht⟩
  · have bb : Below B w W := bel0.mono (by omega)
    exact (bb.grown hg (by omega) (fun k hk => (hrow k hk).1)).setCell hBb _
  · simp [World.cell?, hb1]
  · simp [World.frozen?, hb1]
end Go.Proofs.YbulkbuxwDoor
