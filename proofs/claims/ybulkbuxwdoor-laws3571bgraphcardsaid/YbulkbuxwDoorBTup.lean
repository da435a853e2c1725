/-
  A TUPLE UNDER CONSTRUCTION: what holds of the world after j elements; its start, its step, its end. No walk in this text.
-/
import Derived.Test.YbulkbuxwDoorBHeap
namespace Go.Proofs.YbulkbuxwDoor
open Go.RowKit

theorem ownsRow_kept {w w' : World} {B : Nat} {v : Value} {n : Nat} {xs : List Value} (h : w.ownsRow B 24 1 v n xs) (k : Kept w w') : w'.ownsRow B 24 1 v n xs := by
  refine ⟨h.1, ?_⟩
  rcases h.2 with h0 | ⟨g, cap, cur, hv, hb, hg, r⟩
  · exact .inl h0
  · exact .inr ⟨g, cap, cur, hv, hb, k.node _ _ _ rfl hg, r⟩

/-- i and out behind an append to a row of nodes. -/
theorem St.grown24 {w w' : World} {B bi bo i g : Nat} {e : List Norm} {c : Array Value} (h : St w B bi bo i e) (hg : w.heap[g]? = some (.cells c 24 (0, 0))) (hw : w.grownBy w' (some g)) : St w' B bi bo i e := by
  obtain ⟨a, len, cap, h1, h2⟩ := h.ob
  have ne : ∀ {k : Nat} {x : Array Value} {t : TypeId}, w.heap[k]? = some (.cells x t (0, 0)) → t ≠ 24 → some k ≠ some g := fun hk ht e' => by
    injection e' with e'
    subst e'
    rw [hg] at hk
    injection hk with hk
    injection hk with _ h4
    exact ht h4.symm
  refine ⟨?_, ⟨a, len, cap, ?_, h2.kept hw ?_⟩, h.hi, h.ho⟩
  · rw [hw.block bi (lt_of_block h.ib) (ne h.ib (by decide))]; exact h.ib
  · rw [hw.block bo (lt_of_block h1) (ne h1 (by decide))]; exact h1
  · cases hb : (Value.slice a len cap).ownBlock with
    | none => exact .inl rfl
    | some k =>
      obtain ⟨_, c', hc⟩ := own_type h2 hb
      exact .inr (ne hc (by decide))

structure TupMid (w wr : World) (B bi bo g ab f i m j n : Nat) (row : Int) (T : Toks) (e : List Norm) : Prop where
  st : St wr B bi bo (encMany (encF T n f) j (i + 1)).2 (e ++ (3, (m : Int), nils) :: (encMany (encF T n f) j (i + 1)).1)
  els : ∃ (vs : List Value) (es : List (List Norm)), wr.ownsRow B 24 1 (.slice (some ⟨g, 0, none⟩) j m) j vs ∧ es.length = j ∧ es.flatten = (encMany (encF T n f) j (i + 1)).1 ∧
    ∀ q, q < j → ∃ vq, vs[q]? = some vq ∧ Tree wr (g + 1) (f + 1) vq (es.getD q [])
  box : wr.heap[ab]? = some (.cells #[.int .i64 row, .int .i64 (i : Int)] 42 (0, 0))
  bel : Below B w wr
  kep : Kept w wr
  gw : w.heap.size ≤ g
  gB : B ≤ g
  gl : g < wr.heap.size

theorem tup_start {w W : World} {B bi bo ab f i m n : Nat} {row : Int} {T : Toks} {e : List Norm} (z : Array Value) (st : St W B bi bo (i + 1) (e ++ [(3, (m : Int), nils)])) (box : W.heap[ab]? = some (.cells #[.int .i64 row, .int .i64 (i : Int)] 42 (0, 0)))
    (bel : Below B w W) (kep : Kept w W) (hm : m ≤ 3) (hz : z.size = m) : TupMid w (W.alloc (.cells z 24)) B bi bo W.heap.size ab f i m 0 n row T e := by
  refine ⟨st.alloc _, ⟨[], [], ?_, rfl, rfl, fun q hq => absurd hq (Nat.not_lt_zero q)⟩, ?_, bel.alloc st.lt _, kep.alloc _, kep.size, st.lt, by simp⟩
  · exact World.ownsRow_made W z m st.lt (by unfold maxLen; omega) (by omega)
  · rw [Below.heap_alloc _ _ _ (lt_of_block box)]; exact box

theorem tup_step {w wr w3 w4 : World} {B bi bo g ab f i m j n : Nat} {row : Int} {T : Toks} {e : List Norm} {vs : List Value} {es : List (List Norm)} {v : Value} {o : Obj}
    (h : TupMid w wr B bi bo g ab f i m j n row T e) (hown : wr.ownsRow B 24 1 (.slice (some ⟨g, 0, none⟩) j m) j vs) (hel : es.length = j) (hef : es.flatten = (encMany (encF T n f) j (i + 1)).1)
    (hes : ∀ q, q < j → ∃ vq, vs[q]? = some vq ∧ Tree wr (g + 1) (f + 1) vq (es.getD q []))
    (tr : Tree w3 wr.heap.size (f + 1) v (encF T n f (encMany (encF T n f) j (i + 1)).2).1)
    (st3 : St w3 B bi bo (encF T n f (encMany (encF T n f) j (i + 1)).2).2 ((e ++ (3, (m : Int), nils) :: (encMany (encF T n f) j (i + 1)).1) ++ (encF T n f (encMany (encF T n f) j (i + 1)).2).1)) (bel3 : Below B wr w3) (kep3 : Kept wr w3)
    (hown4 : w4.ownsRow B 24 1 (.slice (some ⟨g, 0, none⟩) (j + 1) m) (j + 1) (vs ++ [v])) (hg4 : (w3.alloc o).grownBy w4 (some g)) :
    TupMid w w4 B bi bo g ab f i m (j + 1) n row T e := by
  obtain ⟨_, c, hgc⟩ := own_type hown (k := g) rfl
  have hgc3 := kep3.node _ _ _ rfl hgc
  have hlt3 := lt_of_block hgc3
  have hgc3' : (w3.alloc o).heap[g]? = some (.cells c 24 (0, 0)) := (Below.heap_alloc _ _ _ hlt3).trans hgc3
  have hvl : vs.length = j := by have := hown.1; omega
  -- what lies above g is as it was
  have tra : ∀ (k : Nat) (x : Array Value) (t : TypeId), g + 1 ≤ k → mayWrite t = false → w3.heap[k]? = some (.cells x t (0, 0)) → w4.heap[k]? = some (.cells x t (0, 0)) := fun k x t hk _ hx => by
    rw [hg4.block k (by simp; have := lt_of_block hx; omega) (fun e' => by injection e' with e'; omega), Below.heap_alloc _ _ _ (lt_of_block hx)]; exact hx
  have box3 := kep3.node _ _ _ rfl h.box
  refine ⟨?_, ⟨vs ++ [v], es ++ [(encF T n f (encMany (encF T n f) j (i + 1)).2).1], hown4, by simp [hel], by simp [hef, encMany], fun q hq => ?_⟩, ?_, ?_, ?_, h.gw, h.gB, ?_⟩
  · have := (st3.alloc o).grown24 hgc3' hg4
    simpa only [encMany, List.append_assoc, List.cons_append] using this
  · by_cases hqj : q < j
    · obtain ⟨vq, h1, h2⟩ := hes q hqj
      refine ⟨vq, by rw [List.getElem?_append_left (by omega)]; exact h1, ?_⟩
      have e1 : (es ++ [(encF T n f (encMany (encF T n f) j (i + 1)).2).1]).getD q [] = es.getD q [] := by simp [List.getElem?_append_left (show q < es.length by omega)]
      rw [e1]
      exact Tree.transport (Nat.le_refl _) tra _ _ _ (h2.kept kep3)
    · obtain rfl : q = j := by omega
      refine ⟨v, by simp [hvl], ?_⟩
      have e1 : (es ++ [(encF T n f (encMany (encF T n f) q (i + 1)).2).1]).getD q [] = (encF T n f (encMany (encF T n f) q (i + 1)).2).1 := by simp [hel]
      rw [e1]
      exact Tree.transport (Nat.le_refl _) tra _ _ _ (tr.low h.gl)
  · rw [hg4.block ab (by simp; have := lt_of_block box3; omega) (fun e' => ?_), Below.heap_alloc _ _ _ (lt_of_block box3)]
    · exact box3
    · injection e' with e'
      subst e'
      rw [hgc3] at box3; simp at box3
  · exact ((h.bel.trans bel3).alloc st3.lt o).grown hg4 (st3.alloc o).lt (fun k hk => by injection hk with hk; have := h.gB; omega)
  · exact ((h.kep.trans kep3).alloc o).grown hg4 (fun k hk => .inl (by injection hk with hk; have := h.gw; omega))
  · have := hg4.size; simp at this; omega

/-- The finished tuple. -/
theorem tup_end {w wr : World} {B bi bo g ab f i m n : Nat} {row : Int} {T : Toks} {e : List Norm} (h : TupMid w wr B bi bo g ab f i m m n row T e) (r c : Value) (hm : m ≤ 3) (k : Nat) (hk : k = wr.heap.size) :
    Tree (wr.alloc (.cells #[r, c, .slice (some ⟨g, 0, none⟩) m m] 78)) w.heap.size (f + 2) (.iface 74 (.pointer (some ⟨k, 0, none⟩))) ((3, (m : Int), nils) :: (encMany (encF T n f) m (i + 1)).1) := by
  subst hk
  obtain ⟨vs, es, hown, hel, hef, hes⟩ := h.els
  rcases hown.2 with ⟨h0, _⟩ | ⟨g', cap, cur, hv, _, hg, _, _, _, htk⟩
  · cases h0
  injection hv with hv1 _ hv2
  injection hv1 with hv1
  injection hv1 with hv1
  subst hv1
  refine .inr (.inr (.inr ⟨wr.heap.size, g, r, c, m, m, cur, es, rfl, h.kep.size, heap_alloc_new wr _, h.gw, ?_, hm, hel, fun q hq => ?_, by rw [hef]⟩))
  · rw [Below.heap_alloc _ _ _ h.gl]; exact hg
  · obtain ⟨vq, h1, h2⟩ := hes q hq
    refine ⟨vq, ?_, (h2.low (by have := h.gw; omega)).kept ((Kept.refl wr).alloc _)⟩
    rw [← htk, List.getElem?_take] at h1
    split at h1
    · simpa using h1
    · cases h1
end Go.Proofs.YbulkbuxwDoor
