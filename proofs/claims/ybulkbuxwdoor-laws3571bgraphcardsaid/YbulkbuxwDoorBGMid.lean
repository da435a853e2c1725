/-
  WHAT sameGraph HAS LAID MIDWAY: the map from texts to the edges not paired yet.
-/
import Derived.Test.YbulkbuxwDoorBGHeap
import Derived.Test.YbulkbuxwDoorBGDelete
namespace Go.Proofs.YbulkbuxwDoor
open Go.RowKit
set_option linter.unusedVariables false

/-- The edges of one text, in the row at hand. -/
def RowAt (F : Nat) (w wr : World) (B : Nat) (v : Value) (es : List (List Norm)) : Prop :=
  ∃ vs, wr.ownsRow B 24 1 v es.length vs ∧ ∀ (j : Nat) (e : List Norm), es[j]? = some e → ∃ u, vs[j]? = some u ∧ Tree w 0 F u e

/-- Midway: bs are the entries laid and not paired yet. -/
structure Mid (F : Nat) (w wr : World) (N : Nat) (bs : List Ent) (M : ByteArray → Value) : Prop where
  map : MapAt wr w.heap.size N M
  rows : ∀ t, RowAt F w wr (w.heap.size + 1) (M t) (grp bs t)
  apart : ∀ t t' k, t ≠ t' → (M t).ownBlock = some k → (M t').ownBlock ≠ some k
  bel : Below w.heap.size w wr
  size : w.heap.size < wr.heap.size

theorem MapAt.same {w w' : World} {b n : Nat} {M : ByteArray → Value} (h : MapAt w b n M) (hb : w'.heap[b]? = w.heap[b]?) : MapAt w' b n M := by
  obtain ⟨D, ⟨es, clock, a1, a2⟩, h2, h3⟩ := h
  exact ⟨D, ⟨es, clock, hb.trans a1, a2⟩, h2, h3⟩

theorem mid_start (F : Nat) (w : World) (m : Nat) : Mid F w ((w.drewN m).alloc (.map #[] 0)) 0 [] (fun _ => .slice none 0 0) where
  map := map_made (w.drewN m)
  rows := fun t => ⟨[], World.ownsRow_nil _ _ _ _, fun j e h => by simp [grp] at h⟩
  apart := fun t t' k _ h => by simp [Value.ownBlock] at h
  bel := (below_drewN (Below.refl _ w) m).alloc (Nat.le_refl _) _
  size := by simp

/-- New blocks do not touch it. -/
theorem Mid.new {F : Nat} {w wr w' : World} {N : Nat} {bs : List Ent} {M : ByteArray → Value} (h : Mid F w wr N bs M) (hs : wr.heap.size ≤ w'.heap.size) (b : Below wr.heap.size wr w') : Mid F w w' N bs M where
  map := h.map.same (b.block _ h.size)
  rows := fun t => by
    obtain ⟨vs, a1, a2⟩ := h.rows t
    exact ⟨vs, own_below a1 b, a2⟩
  apart := h.apart
  bel := h.bel.trans (b.mono (Nat.le_of_lt h.size))
  size := Nat.lt_of_lt_of_le h.size hs

theorem own_ne {w : World} {B : Nat} {v : Value} {n : Nat} {xs : List Value} (h : w.ownsRow (B + 1) 24 1 v n xs) : v.ownBlock ≠ some B := fun e => by
  have := (h.lt B e).1
  omega

/-- A row that is not the one written. -/
theorem RowAt.far {F : Nat} {w wr w' : World} {B : Nat} {v : Value} {es : List (List Norm)} {row : Option Nat} (h : RowAt F w wr B v es) (hg : wr.grownBy w' row) (hne : v.ownBlock = none ∨ v.ownBlock ≠ row) : RowAt F w w' B v es := by
  obtain ⟨vs, a1, a2⟩ := h
  exact ⟨vs, a1.kept hg hne, a2⟩

theorem ne_of_apart {a b : Option Nat} (h : ∀ k, a = some k → b ≠ some k) : a = none ∨ a ≠ b := by
  cases a with
  | none => exact .inl rfl
  | some k => exact .inr (fun e => h k rfl e.symm)

/-- ONE EDGE MORE. -/
theorem Mid.push {F : Nat} {w wr w2 w3 : World} {N : Nat} {bs : List Ent} {M : ByteArray → Value} {s : ByteArray} {e : List Norm} {ev : Value} {vs : List Value} {g cap' n : Nat} (h : Mid F w wr N bs M) (hn : n = (grp bs s).length)
    (hvs : ∀ (j : Nat) (d : List Norm), (grp bs s)[j]? = some d → ∃ u, vs[j]? = some u ∧ Tree w 0 F u d) (hvl : vs.length = n) (ht : Tree w 0 F ev e)
    (hg : ((wr.alloc (.cells #[ev] 24)).drew).grownBy w2 (M s).ownBlock) (hown : w2.ownsRow (w.heap.size + 1) 24 1 (.slice (some ⟨g, 0, none⟩) (n + 1) cap') (n + 1) (vs ++ [ev])) (hat : (M s).ownBlock = some g ∨ g = wr.heap.size + 1)
    (hm : MapAt w3 w.heap.size (N + 1) (fun t => if t = s then .slice (some ⟨g, 0, none⟩) (n + 1) cap' else M t)) (hg3 : w2.grownBy w3 (some w.heap.size)) :
    Mid F w w3 (N + 1) (bs ++ [(s, e)]) (fun t => if t = s then .slice (some ⟨g, 0, none⟩) (n + 1) cap' else M t) := by
  have bel1 : Below wr.heap.size wr ((wr.alloc (.cells #[ev] 24)).drew) := ((Below.refl _ wr).alloc (Nat.le_refl _) _).drew
  have h1 := h.new (w' := (wr.alloc (.cells #[ev] 24)).drew) (by simp) bel1
  have hlt : ∀ t k, (M t).ownBlock = some k → w.heap.size + 1 ≤ k ∧ k < wr.heap.size := fun t k hk => by
    obtain ⟨vs', a1, _⟩ := h.rows t
    exact a1.lt k hk
  refine ⟨hm, fun t => ?_, fun t t' k hne hk => ?_, ?_, ?_⟩
  · show RowAt F w w3 (w.heap.size + 1) (if t = s then _ else M t) (grp (bs ++ [(s, e)]) t)
    rw [grp_snoc]
    by_cases hts : t = s
    · subst hts
      rw [if_pos rfl, if_pos rfl]
      refine ⟨vs ++ [ev], ?_, fun j d hj => ?_⟩
      · have := hown.kept hg3 (.inr (own_ne hown))
        rw [List.length_append, ← hn]
        exact this
      · by_cases hjl : j < n
        · rw [List.getElem?_append_left (by omega)] at hj ⊢
          exact hvs j d hj
        · have hj2 : j = n := by
            have := (List.getElem?_eq_some_iff.1 hj).1
            simp at this
            omega
          subst hj2
          rw [List.getElem?_append_right (by omega), ← hn, Nat.sub_self] at hj
          simp at hj
          subst hj
          exact ⟨ev, by rw [List.getElem?_append_right (by omega), hvl, Nat.sub_self]; rfl, ht⟩
    · rw [if_neg hts, if_neg (fun e => hts e.symm)]
      have r1 := (h1.rows t).far hg (ne_of_apart (fun k hk hk' => h.apart t s k hts hk hk'))
      obtain ⟨vs', a1, a2⟩ := r1
      exact ⟨vs', a1.kept hg3 (.inr (own_ne a1)), a2⟩
  · by_cases hts : t = s
    · have ht' : ¬ t' = s := fun e => hne (hts.trans e.symm)
      simp only [hts, ht', if_true, if_false] at hk ⊢
      simp only [Value.ownBlock, Option.some.injEq] at hk
      subst hk
      intro hk'
      rcases hat with ha | ha
      · exact h.apart s t' g (fun e => ht' e.symm) ha hk'
      · have := (hlt t' g hk').2
        omega
    · by_cases ht' : t' = s
      · simp only [hts, ht', if_true, if_false] at hk ⊢
        simp only [Value.ownBlock, ne_eq, Option.some.injEq]
        intro hg'
        have hg2 : g = k := hg'
        subst hg2
        rcases hat with ha | ha
        · exact h.apart t s g hts hk ha
        · have := (hlt t g hk).2
          omega
      · simp only [hts, ht', if_false] at hk ⊢
        exact h.apart t t' k hne hk
  · have b2 : Below w.heap.size w w2 := h1.bel.grown hg (Nat.le_of_lt h1.size) (fun k hk => Nat.le_of_lt (hlt s k hk).1)
    exact b2.grown hg3 (Nat.le_trans (Nat.le_of_lt h1.size) hg.size) (fun k hk => by simp at hk; omega)
  · exact Nat.lt_of_lt_of_le h1.size (Nat.le_trans hg.size hg3.size)

/-- ONE EDGE LESS. -/
theorem Mid.pop {F : Nat} {w wr w2 w3 : World} {N : Nat} {bs : List Ent} {M : ByteArray → Value} {s : ByteArray} {e : List Norm} {vs : List Value} {g cap k : Nat} (h : Mid F w wr N bs M)
    (hvs : ∀ (j : Nat) (d : List Norm), (grp bs s)[j]? = some d → ∃ u, vs[j]? = some u ∧ Tree w 0 F u d) (hk1 : (grp bs s)[k]? = some e) (hk2 : ∀ j, j < k → (grp bs s)[j]? ≠ some e) (hM : (M s).ownBlock = some g)
    (hown : w2.ownsRow (w.heap.size + 1) 24 1 (.slice (some ⟨g, 0, none⟩) ((grp bs s).length - 1) cap) ((grp bs s).length - 1) (vs.eraseIdx k)) (hg : wr.grownBy w2 (some g))
    (hm : MapAt w3 w.heap.size (N + 1) (fun t => if t = s then .slice (some ⟨g, 0, none⟩) ((grp bs s).length - 1) cap else M t)) (hg3 : w2.grownBy w3 (some w.heap.size)) :
    Mid F w w3 (N + 1) (del1 (s, e) bs) (fun t => if t = s then .slice (some ⟨g, 0, none⟩) ((grp bs s).length - 1) cap else M t) := by
  have hkl : k < (grp bs s).length := (List.getElem?_eq_some_iff.1 hk1).1
  have hgl : w.heap.size + 1 ≤ g ∧ g < wr.heap.size := by
    obtain ⟨vs', a1, _⟩ := h.rows s
    exact a1.lt g hM
  refine ⟨hm, fun t => ?_, fun t t' k' hne hk => ?_, ?_, ?_⟩
  · show RowAt F w w3 (w.heap.size + 1) (if t = s then _ else M t) (grp (del1 (s, e) bs) t)
    by_cases hts : t = s
    · subst hts
      rw [if_pos rfl, grp_del_same, del1_first e _ k hk1 hk2]
      have hl : ((grp bs t).eraseIdx k).length = (grp bs t).length - 1 := by rw [List.length_eraseIdx, if_pos hkl]
      refine ⟨vs.eraseIdx k, by rw [hl]; exact hown.kept hg3 (.inr (own_ne hown)), fun j d hj => ?_⟩
      rw [List.getElem?_eraseIdx] at hj ⊢
      by_cases hjk : j < k
      · rw [if_pos hjk] at hj ⊢
        exact hvs j d hj
      · rw [if_neg hjk] at hj ⊢
        exact hvs (j + 1) d hj
    · rw [if_neg hts, grp_del_other bs s t e hts]
      have r1 := (h.rows t).far hg (ne_of_apart (fun k hk hk' => by
        rw [← hM] at hk'
        exact h.apart t s k hts hk hk'))
      obtain ⟨vs', a1, a2⟩ := r1
      exact ⟨vs', a1.kept hg3 (.inr (own_ne a1)), a2⟩
  · by_cases hts : t = s
    · have ht' : ¬ t' = s := fun e => hne (hts.trans e.symm)
      simp only [hts, ht', if_true, if_false] at hk ⊢
      simp only [Value.ownBlock, Option.some.injEq] at hk
      subst hk
      intro hk'
      exact h.apart s t' g (fun e => ht' e.symm) hM hk'
    · by_cases ht' : t' = s
      · simp only [hts, ht', if_true, if_false] at hk ⊢
        simp only [Value.ownBlock, ne_eq, Option.some.injEq]
        intro hg'
        have hg2 : g = k' := hg'
        subst hg2
        exact h.apart t s g hts hk hM
      · simp only [hts, ht', if_false] at hk ⊢
        exact h.apart t t' k' hne hk
  · have b2 : Below w.heap.size w w2 := h.bel.grown hg (Nat.le_of_lt h.size) (fun k hk => by simp at hk; omega)
    exact b2.grown hg3 (Nat.le_trans (Nat.le_of_lt h.size) hg.size) (fun k hk => by simp at hk; omega)
  · exact Nat.lt_of_lt_of_le h.size (Nat.le_trans hg.size hg3.size)

/-- The entry at a place of a graph's row. -/
theorem row_entry {F : Nat} {w : World} {B n cap : Nat} {a : Option Addr} {xs : List Ent} {vs : List Value} (hown : w.ownsRow B 46 1 (.slice a n cap) n vs) (hent : ∀ (j : Nat) (x : Ent), xs[j]? = some x → ∃ v, vs[j]? = some v ∧ EntryAt F w v x) {k : Nat} {x : Ent} (hk : k < n) (hx : xs[k]? = some x) :
    ∃ (g p q : Nat) (r c r' c' ev : Value), a = some ⟨g, 0, none⟩ ∧ g < w.heap.size ∧ w.cell? ⟨g, k, none⟩ = some (.pointer (some ⟨p, 0, none⟩)) ∧ w.heap[p]? = some (.cells #[r, c, .iface 47 (.pointer (some ⟨q, 0, none⟩)), ev] 51 (0, 0)) ∧
      w.heap[q]? = some (.cells #[r', c', .string x.1] 49 (0, 0)) ∧ Tree w 0 F ev x.2 := by
  obtain ⟨v, h1, p, q, r, c, r', c', ev, rfl, h2, h3, h4⟩ := hent k x hx
  have hc := hown
  rcases hown.2 with ⟨_, h0⟩ | ⟨g, cap', cur, e, _, hg, _⟩
  · omega
  · simp only [Value.slice.injEq] at e
    obtain ⟨rfl, _, _⟩ := e
    have := hc.cells (g := g) rfl k _ h1
    have hadd : (⟨g, 0, none⟩ : Addr).add k = ⟨g, k, none⟩ := by unfold Addr.add; split <;> simp_all
    rw [hadd] at this
    exact ⟨g, p, q, r, c, r', c', ev, rfl, lt_of_block hg, this, h2, h3, h4⟩

theorem grp_le (bs : List Ent) (t : ByteArray) : (grp bs t).length ≤ bs.length := by
  induction bs with
  | nil => simp [grp]
  | cons y r ih =>
    simp only [grp]
    by_cases h : y.1 = t <;> simp [h] <;> omega
theorem del1_length {α : Type} [DecidableEq α] (a : α) (l : List α) (h : a ∈ l) : (del1 a l).length + 1 = l.length := by
  have := (del1_perm a l h).length_eq
  simpa using this.symm
end Go.Proofs.YbulkbuxwDoor
