/-
  THE HEAP OF THE BUILDER: trees that lie in memory, told by their encodings; what a build may write; the variables i and out. No walk in this text.
-/
import Derived.WalkKit
import Derived.Deep.Draws
import Derived.Test.YbulkbuxwDoorBPlain
namespace Go.Proofs.YbulkbuxwDoor
open Go.RowKit

/-- A normal token's three cells; an encoding's. -/
def ncells (x : Norm) : List Value := [.int .u8 x.1, .int .i64 x.2.1, .string x.2.2]
def encCells (e : List Norm) : List Value := e.flatMap ncells
theorem encCells_append (a b : List Norm) : encCells (a ++ b) = encCells a ++ encCells b := by simp [encCells]
theorem encCells_one (x : Norm) : encCells [x] = ncells x := by simp [encCells]
theorem encCells_length (e : List Norm) : (encCells e).length = e.length * 3 := by
  induction e with
  | nil => rfl
  | cons x r ih =>
    have : encCells (x :: r) = ncells x ++ encCells r := rfl
    rw [this, List.length_append, ih]; simp [ncells]; omega

/-- The types of the old blocks that a build may write: the variable i, the variable out, out's row. -/
def mayWrite (t : TypeId) : Bool := t == 3 || t == 25 || t == 31

/-- Every old block of another type is as it was. -/
structure Kept (w w' : World) : Prop where
  size : w.heap.size ≤ w'.heap.size
  node : ∀ (k : Nat) (c : Array Value) (t : TypeId), mayWrite t = false → w.heap[k]? = some (.cells c t (0, 0)) → w'.heap[k]? = some (.cells c t (0, 0))

theorem Kept.refl (w : World) : Kept w w := ⟨Nat.le_refl _, fun _ _ _ _ h => h⟩
theorem Kept.trans {a b c : World} (h : Kept a b) (k : Kept b c) : Kept a c := ⟨Nat.le_trans h.size k.size, fun i x t ht hi => k.node i x t ht (h.node i x t ht hi)⟩
theorem Kept.drew {a w : World} (h : Kept a w) : Kept a w.drew := ⟨h.size, h.node⟩
theorem Kept.drewN {a w : World} (h : Kept a w) (n : Nat) : Kept a (w.drewN n) := ⟨h.size, h.node⟩
theorem Kept.alloc {a w : World} (h : Kept a w) (o : Obj) : Kept a (w.alloc o) :=
  ⟨Nat.le_trans h.size (by simp), fun k c t ht hk => by
    have := h.node k c t ht hk
    rw [Below.heap_alloc w o k (lt_of_block this)]; exact this⟩
/-- A store into a block that a build may write. -/
theorem Kept.setOwn {a w : World} (h : Kept a w) {b : Nat} {c : Array Value} {t : TypeId} (hb : w.heap[b]? = some (.cells c t (0, 0))) (ht : mayWrite t = true) (o : Nat) (u : Value) : Kept a (w.setCell ⟨b, o, none⟩ u) :=
  ⟨Nat.le_trans h.size (by simp [World.setCell]), fun k c' t' ht' hk => by
    have hw := h.node k c' t' ht' hk
    rw [heap_setCell_other w _ k u (fun e => ?_)]
    · exact hw
    · have e' : k = b := e
      subst e'
      rw [hb] at hw
      injection hw with hw
      injection hw with h1 h2
      rw [h2, ht'] at ht
      exact absurd ht (by decide)⟩
/-- A store into a block that was not there. -/
theorem Kept.setNew {a w : World} (h : Kept a w) {b : Nat} (hb : a.heap.size ≤ b) (o : Nat) (u : Value) : Kept a (w.setCell ⟨b, o, none⟩ u) :=
  ⟨Nat.le_trans h.size (by simp [World.setCell]), fun k c' t' ht' hk => by
    have hw := h.node k c' t' ht' hk
    rw [heap_setCell_other w _ k u (fun e => ?_)]
    · exact hw
    · have e' : k = b := e
      have := lt_of_block hk
      omega⟩
/-- An append. -/
theorem Kept.grown {a w w' : World} {row : Option Nat} (h : Kept a w) (hg : w.grownBy w' row) (hrow : ∀ k, row = some k → a.heap.size ≤ k ∨ ∃ c t, w.heap[k]? = some (.cells c t (0, 0)) ∧ mayWrite t = true) : Kept a w' :=
  ⟨Nat.le_trans h.size hg.size, fun k c t ht hk => by
    have hw := h.node k c t ht hk
    rw [hg.block k (lt_of_block hw) (fun e => ?_)]
    · exact hw
    · rcases hrow k e.symm with h1 | ⟨c', t', h2, h3⟩
      · have := lt_of_block hk; omega
      · rw [h2] at hw
        injection hw with hw
        injection hw with h4 h5
        rw [h5, ht] at h3
        exact absurd h3 (by decide)⟩

/-- THE TREE: the interface value v is, in the world w, a tree of encoding e; its blocks bear numbers from lo on. -/
def Tree (w : World) (lo : Nat) : Nat → Value → List Norm → Prop
  | 0, _, _ => False
  | f + 1, v, e =>
    (∃ b r c n, v = .iface 53 (.pointer (some ⟨b, 0, none⟩)) ∧ lo ≤ b ∧ w.heap[b]? = some (.cells #[r, c, .int .i64 n] 55 (0, 0)) ∧ e = [(0, n, nils)]) ∨
    (∃ b r c s, v = .iface 47 (.pointer (some ⟨b, 0, none⟩)) ∧ lo ≤ b ∧ w.heap[b]? = some (.cells #[r, c, .string s] 49 (0, 0)) ∧ e = [(1, 0, s)]) ∨
    (∃ b v1 v2 e1 e2, v = .iface 52 (.pointer (some ⟨b, 0, none⟩)) ∧ lo ≤ b ∧ w.heap[b]? = some (.cells #[v1, v2] 57 (0, 0)) ∧ Tree w lo f v1 e1 ∧ Tree w lo f v2 e2 ∧ e = (2, 0, nils) :: (e1 ++ e2)) ∨
    (∃ (b g : Nat) (r c : Value) (m cp : Nat) (cs : Array Value) (es : List (List Norm)), v = .iface 74 (.pointer (some ⟨b, 0, none⟩)) ∧ lo ≤ b ∧ w.heap[b]? = some (.cells #[r, c, .slice (some ⟨g, 0, none⟩) m cp] 78 (0, 0)) ∧ lo ≤ g ∧ w.heap[g]? = some (.cells cs 24 (0, 0)) ∧ m ≤ 3 ∧
      es.length = m ∧ (∀ j, j < m → ∃ vj, cs[j]? = some vj ∧ Tree w lo f vj (es.getD j [])) ∧ e = (3, (m : Int), nils) :: es.flatten)

theorem Tree.transport {w w' : World} {lo lo' : Nat} (hlo : lo' ≤ lo) (h : ∀ (k : Nat) (c : Array Value) (t : TypeId), lo ≤ k → mayWrite t = false → w.heap[k]? = some (.cells c t (0, 0)) → w'.heap[k]? = some (.cells c t (0, 0))) :
    ∀ (f : Nat) (v : Value) (e : List Norm), Tree w lo f v e → Tree w' lo' f v e
  | 0, _, _, ht => ht.elim
  | f + 1, v, e, ht => by
    have ih := Tree.transport hlo h f
    rcases ht with ⟨b, r, c, n, h1, h2, h3, h4⟩ | ⟨b, r, c, s, h1, h2, h3, h4⟩ | ⟨b, v1, v2, e1, e2, h1, h2, h3, h4, h5, h6⟩ | ⟨b, g, r, c, m, cp, cs, es, h1, h2, h3, h4, h5, h6, h7, h8, h9⟩
    · exact .inl ⟨b, r, c, n, h1, Nat.le_trans hlo h2, h b _ 55 h2 rfl h3, h4⟩
    · exact .inr (.inl ⟨b, r, c, s, h1, Nat.le_trans hlo h2, h b _ 49 h2 rfl h3, h4⟩)
    · exact .inr (.inr (.inl ⟨b, v1, v2, e1, e2, h1, Nat.le_trans hlo h2, h b _ 57 h2 rfl h3, ih _ _ h4, ih _ _ h5, h6⟩))
    · exact .inr (.inr (.inr ⟨b, g, r, c, m, cp, cs, es, h1, Nat.le_trans hlo h2, h b _ 78 h2 rfl h3, Nat.le_trans hlo h4, h g _ 24 h4 rfl h5, h6, h7, fun j hj => by
        obtain ⟨vj, a1, a2⟩ := h8 j hj
        exact ⟨vj, a1, ih _ _ a2⟩, h9⟩))
theorem Tree.kept {w w' : World} {lo f : Nat} {v : Value} {e : List Norm} (h : Tree w lo f v e) (k : Kept w w') : Tree w' lo f v e :=
  Tree.transport (Nat.le_refl _) (fun i c t _ ht hi => k.node i c t ht hi) f v e h
theorem Tree.low {w : World} {lo lo' f : Nat} {v : Value} {e : List Norm} (h : Tree w lo f v e) (hl : lo' ≤ lo) : Tree w lo' f v e :=
  Tree.transport hl (fun _ _ _ _ _ hi => hi) f v e h

theorem Tree.wf {w : World} {lo : Nat} : ∀ (f : Nat) (v : Value) (e : List Norm), Tree w lo f v e → WfE f e
  | 0, _, _, ht => ht.elim
  | f + 1, v, e, ht => by
    have ih := Tree.wf (w := w) (lo := lo) f
    rcases ht with ⟨b, r, c, n, _, _, _, rfl⟩ | ⟨b, r, c, s, _, _, _, rfl⟩ | ⟨b, v1, v2, e1, e2, _, _, _, h4, h5, rfl⟩ | ⟨b, g, r, c, m, cp, cs, es, _, _, _, _, _, _, h7, h8, rfl⟩
    · exact ⟨(0, n, nils), [], by simp [ar], by simp, by simp⟩
    · exact ⟨(1, 0, s), [], by simp [ar], by simp, by simp⟩
    · exact ⟨(2, 0, nils), [e1, e2], by simp [ar], by simp; exact ⟨ih _ _ h4, ih _ _ h5⟩, by simp⟩
    · refine ⟨(3, (m : Int), nils), es, by simp [ar, h7], fun y hy => ?_, rfl⟩
      obtain ⟨j, hj, rfl⟩ := List.mem_iff_getElem.1 hy
      obtain ⟨vj, _, a2⟩ := h8 j (by omega)
      have := ih _ _ a2
      simpa [List.getD_eq_getElem?_getD, hj] using this

/-- The variables i and out while a build goes on: i holds the number of tokens read, out owns the normal tokens written so far. -/
structure St (w : World) (B bi bo i : Nat) (e : List Norm) : Prop where
  ib : w.heap[bi]? = some (.cells #[.int .i64 i] 3 (0, 0))
  ob : ∃ a len cap, w.heap[bo]? = some (.cells #[.slice a len cap] 25 (0, 0)) ∧ w.ownsRow B 31 3 (.slice a len cap) e.length (encCells e)
  hi : B ≤ bi
  ho : B ≤ bo

theorem ownsRow_drew' {w : World} {base : Nat} {e : TypeId} {size : Nat} {v : Value} {n : Nat} {xs : List Value} (h : w.ownsRow base e size v n xs) : w.drew.ownsRow base e size v n xs := h
theorem St.drew {w : World} {B bi bo i : Nat} {e : List Norm} (h : St w B bi bo i e) : St w.drew B bi bo i e := ⟨h.ib, h.ob, h.hi, h.ho⟩
theorem St.alloc {w : World} {B bi bo i : Nat} {e : List Norm} (h : St w B bi bo i e) (o : Obj) : St (w.alloc o) B bi bo i e := by
  obtain ⟨a, len, cap, h1, h2⟩ := h.ob
  exact ⟨by rw [Below.heap_alloc w o bi (lt_of_block h.ib)]; exact h.ib, ⟨a, len, cap, by rw [Below.heap_alloc w o bo (lt_of_block h1)]; exact h1, h2.alloc o⟩, h.hi, h.ho⟩
theorem St.lt {w : World} {B bi bo i : Nat} {e : List Norm} (h : St w B bi bo i e) : B ≤ w.heap.size := Nat.le_of_lt (Nat.lt_of_le_of_lt h.hi (lt_of_block h.ib))

/-- An owned row's block bears the row's type. -/
theorem own_type {w : World} {B : Nat} {t : TypeId} {size : Nat} {v : Value} {n : Nat} {xs : List Value} (h : w.ownsRow B t size v n xs) {k : Nat} (hk : v.ownBlock = some k) : B ≤ k ∧ ∃ c, w.heap[k]? = some (.cells c t (0, 0)) := by
  rcases h.2 with ⟨rfl, _⟩ | ⟨g, cap, cur, rfl, hb, hg, _⟩
  · simp [Value.ownBlock] at hk
  · simp [Value.ownBlock] at hk
    subst hk
    exact ⟨hb, cur, hg⟩

/-- ONE NORMAL TOKEN MORE: what 'out = append(out, x)' and the store behind it leave. -/
theorem St.emit {w w1 : World} {B bi bo i : Nat} {e : List Norm} {x : Norm} {a : Option Addr} {len cap : Nat} {a' : Option Addr} {len' cap' : Nat} (h : St w B bi bo i e)
    (hv : w.heap[bo]? = some (.cells #[.slice a len cap] 25 (0, 0))) (hg : w.grownBy w1 (Value.slice a len cap).ownBlock) (hown : w1.ownsRow B 31 3 (.slice a' len' cap') (e.length + 1) (encCells e ++ ncells x)) :
    St (w1.setCell ⟨bo, 0, none⟩ (.slice a' len' cap')) B bi bo i (e ++ [x]) ∧ Below B w (w1.setCell ⟨bo, 0, none⟩ (.slice a' len' cap')) ∧ Kept w (w1.setCell ⟨bo, 0, none⟩ (.slice a' len' cap')) := by
  obtain ⟨a0, len0, cap0, h1, h2⟩ := h.ob
  rw [hv] at h1
  injection h1 with h1
  injection h1 with h1
  simp at h1
  obtain ⟨rfl, rfl, rfl⟩ := h1
  have hrow : ∀ k, (Value.slice a len cap).ownBlock = some k → B ≤ k ∧ ∃ c, w.heap[k]? = some (.cells c 31 (0, 0)) := fun k hk => own_type h2 hk
  have nei : some bi ≠ (Value.slice a len cap).ownBlock := fun e' => by
    obtain ⟨_, c, hc⟩ := hrow bi e'.symm
    rw [h.ib] at hc; simp at hc
  have neo : some bo ≠ (Value.slice a len cap).ownBlock := fun e' => by
    obtain ⟨_, c, hc⟩ := hrow bo e'.symm
    rw [hv] at hc; simp at hc
  have hio : bi ≠ bo := fun e' => by subst e'; rw [h.ib] at hv; simp at hv
  have hbi : w1.heap[bi]? = some (.cells #[.int .i64 i] 3 (0, 0)) := by rw [hg.block bi (lt_of_block h.ib) nei]; exact h.ib
  have hbo : w1.heap[bo]? = some (.cells #[.slice a len cap] 25 (0, 0)) := by rw [hg.block bo (lt_of_block hv) neo]; exact hv
  have hne : (Value.slice a' len' cap').ownBlock ≠ some bo := fun e' => by
    obtain ⟨_, c, hc⟩ := own_type hown e'
    rw [hbo] at hc; simp at hc
  refine ⟨⟨?_, ⟨a', len', cap', one_setCell hbo, ?_⟩, h.hi, h.ho⟩, ?_, ?_⟩
  · rw [heap_setCell_other w1 _ bi _ hio]; exact hbi
  · have := ownsRow_setCell_other hown (a := ⟨bo, 0, none⟩) hne (.slice a' len' cap')
    rw [encCells_append, encCells_one, List.length_append]; exact this
  · exact ((Below.refl B w).grown hg h.lt (fun k hk => (hrow k hk).1)).setCell h.ho _
  · exact ((Kept.refl w).grown hg (fun k hk => .inr (by obtain ⟨_, c, hc⟩ := hrow k hk; exact ⟨c, 31, hc, rfl⟩))).setOwn hbo rfl 0 _

/-- The three cells of a normal token in a block of their own. -/
theorem news3 (w : World) (x : Norm) : ∀ j u, (ncells x)[j]? = some u → (w.alloc (.cells #[.int .u8 x.1, .int .i64 x.2.1, .string x.2.2] 31)).cell? ((⟨w.heap.size, 0, none⟩ : Addr).add j) = some u := by
  intro j u hj
  match j, hj with
  | 0, hj => simp [ncells] at hj; subst hj; simp [Addr.add]
  | 1, hj => simp [ncells] at hj; subst hj; simp [Addr.add]
  | 2, hj => simp [ncells] at hj; subst hj; simp [Addr.add]
theorem news3' (w : World) (x : Norm) (k : Nat) (hk : k = w.heap.size) : ∀ j u, (ncells x)[j]? = some u → (w.alloc (.cells #[.int .u8 x.1, .int .i64 x.2.1, .string x.2.2] 31)).cell? ((⟨k, 0, none⟩ : Addr).add j) = some u := by
  subst hk; exact news3 w x
/-- A cell of another block than the row that was appended to (told apart by the blocks' types). -/
theorem own_far {w w1 : World} {B : Nat} {v : Value} {n : Nat} {xs : List Value} {k : Nat} {c : Array Value} {t : TypeId} (h : w.ownsRow B 31 3 v n xs) (hk : w.heap[k]? = some (.cells c t (0, 0))) (ht : t ≠ 31) (hg : w.grownBy w1 v.ownBlock) : w1.heap[k]? = some (.cells c t (0, 0)) := by
  rw [hg.block k (lt_of_block hk) (fun e' => ?_)]
  · exact hk
  · obtain ⟨_, c', hc⟩ := own_type h e'.symm
    rw [hk] at hc
    injection hc with hc
    injection hc with h1 h2
    exact ht h2
theorem ncells_one (x : Norm) : ∀ u ∈ ncells x, u.oneCell' = true := by
  intro u hu; simp [ncells] at hu; rcases hu with rfl | rfl | rfl <;> rfl
/-- What an append leaves is a slice that is not nil. -/
theorem own_shape {w : World} {B : Nat} {t : TypeId} {size : Nat} {v : Value} {n : Nat} {xs : List Value} (h : w.ownsRow B t size v (n + 1) xs) : ∃ g c, v = .slice (some ⟨g, 0, none⟩) (n + 1) c := by
  rcases h.2 with ⟨_, h0⟩ | ⟨g, c, cur, hv, _⟩
  · omega
  · exact ⟨g, c, hv⟩
/-- The variable out, as the store behind an append meets it. -/
theorem St.outAt {w w1 : World} {B bi bo i : Nat} {e : List Norm} {a : Option Addr} {len cap : Nat} (h : St w B bi bo i e)
    (hv : w.heap[bo]? = some (.cells #[.slice a len cap] 25 (0, 0))) (hg : w.grownBy w1 (Value.slice a len cap).ownBlock) : w1.cell? ⟨bo, 0, none⟩ = some (.slice a len cap) ∧ w1.frozen? ⟨bo, 0, none⟩ = false := by
  obtain ⟨a0, len0, cap0, h1, h2⟩ := h.ob
  rw [hv] at h1
  injection h1 with h1
  injection h1 with h1
  simp at h1
  obtain ⟨rfl, rfl, rfl⟩ := h1
  have neo : some bo ≠ (Value.slice a len cap).ownBlock := fun e' => by
    obtain ⟨_, c, hc⟩ := own_type h2 e'.symm
    rw [hv] at hc; simp at hc
  have hbo : w1.heap[bo]? = some (.cells #[.slice a len cap] 25 (0, 0)) := by rw [hg.block bo (lt_of_block hv) neo]; exact hv
  exact ⟨cell_of_one hbo, free_of_one hbo⟩

/-- What a build leaves: the tree, its encoding written to out, so many tokens read; old blocks as they were. -/
def BuildPost (w : World) (B bi bo f i : Nat) (e e' : List Norm) (r : Ending) (w' : World) : Prop :=
  ∃ v, r = .returned v ∧ Tree w' w.heap.size f v e' ∧ St w' B bi bo i (e ++ e') ∧ Below B w w' ∧ Kept w w'

theorem leaf_num (w : World) (lo f k : Nat) (r c : Value) (n : Int) (hk : k = w.heap.size) (hlo : lo ≤ k) : Tree (w.alloc (.cells #[r, c, .int .i64 n] 55)) lo (f + 1) (.iface 53 (.pointer (some ⟨k, 0, none⟩))) [(0, n, nils)] :=
  .inl ⟨k, r, c, n, rfl, hlo, by subst hk; exact heap_alloc_new w _, rfl⟩
theorem leaf_name (w : World) (lo f k : Nat) (r c : Value) (s : ByteArray) (hk : k = w.heap.size) (hlo : lo ≤ k) : Tree (w.alloc (.cells #[r, c, .string s] 49)) lo (f + 1) (.iface 47 (.pointer (some ⟨k, 0, none⟩))) [(1, 0, s)] :=
  .inr (.inl ⟨k, r, c, s, rfl, hlo, by subst hk; exact heap_alloc_new w _, rfl⟩)
theorem size_setCell (w : World) (a : Addr) (v : Value) : (w.setCell a v).heap.size = w.heap.size := by simp [World.setCell]

/-- i is stored. -/
theorem St.step {w : World} {B bi bo i : Nat} {e : List Norm} (h : St w B bi bo i e) (j : Nat) :
    St (w.setCell ⟨bi, 0, none⟩ (.int .i64 j)) B bi bo j e ∧ Below B w (w.setCell ⟨bi, 0, none⟩ (.int .i64 j)) ∧ Kept w (w.setCell ⟨bi, 0, none⟩ (.int .i64 j)) := by
  obtain ⟨a, len, cap, h1, h2⟩ := h.ob
  have hio : bo ≠ bi := fun e' => by subst e'; rw [h.ib] at h1; simp at h1
  refine ⟨⟨one_setCell h.ib, ⟨a, len, cap, ?_, ?_⟩, h.hi, h.ho⟩, (Below.refl B w).setCell h.hi _, (Kept.refl w).setOwn h.ib rfl 0 _⟩
  · rw [heap_setCell_other w _ bo _ hio]; exact h1
  · refine ownsRow_setCell_other h2 (fun e' => ?_) _
    obtain ⟨_, c, hc⟩ := own_type h2 e'
    rw [h.ib] at hc; simp at hc

theorem Tree.shape {w : World} {lo : Nat} : ∀ {f : Nat} {v : Value} {e : List Norm}, Tree w lo f v e → ∃ u b, v = .iface u (.pointer (some ⟨b, 0, none⟩))
  | 0, _, _, h => h.elim
  | _ + 1, _, _, .inl ⟨b, _, _, _, h, _⟩ => ⟨_, b, h⟩
  | _ + 1, _, _, .inr (.inl ⟨b, _, _, _, h, _⟩) => ⟨_, b, h⟩
  | _ + 1, _, _, .inr (.inr (.inl ⟨b, _, _, _, _, h, _⟩)) => ⟨_, b, h⟩
  | _ + 1, _, _, .inr (.inr (.inr ⟨b, _, _, _, _, _, _, _, h, _⟩)) => ⟨_, b, h⟩
theorem node_apply (w : World) (lo f k : Nat) (v1 v2 : Value) (e1 e2 : List Norm) (hk : k = w.heap.size) (hlo : lo ≤ k) (h1 : Tree w lo f v1 e1) (h2 : Tree w lo f v2 e2) :
    Tree (w.alloc (.cells #[v1, v2] 57)) lo (f + 1) (.iface 52 (.pointer (some ⟨k, 0, none⟩))) ((2, 0, nils) :: (e1 ++ e2)) :=
  .inr (.inr (.inl ⟨k, v1, v2, e1, e2, rfl, hlo, by subst hk; exact heap_alloc_new w _, h1.kept ((Kept.refl w).alloc _), h2.kept ((Kept.refl w).alloc _), rfl⟩))
theorem undrew {u w1 : World} {r : Option Nat} (h : u.drew.grownBy w1 r) : u.grownBy w1 r := ⟨h.os, h.tape, h.output, h.size, h.block⟩
/-- 'emit', its world under a letter; from the world ahead of the one-element slice that the translation lays. -/
theorem St.emitted {w w1 : World} {B bi bo i : Nat} {e : List Norm} (x : Norm) {o : Obj} {a : Option Addr} {len cap : Nat} {a' : Option Addr} {len' cap' : Nat} (h : St w B bi bo i e)
    (hv : w.heap[bo]? = some (.cells #[.slice a len cap] 25 (0, 0))) (hg : (w.alloc o).grownBy w1 (Value.slice a len cap).ownBlock) (hown : w1.ownsRow B 31 3 (.slice a' len' cap') (e.length + 1) (encCells e ++ ncells x)) :
    ∃ W, w1.setCell ⟨bo, 0, none⟩ (.slice a' len' cap') = W ∧ St W B bi bo i (e ++ [x]) ∧ Below B w W ∧ Kept w W := by
  obtain ⟨s1, s2, s3⟩ := (h.alloc o).emit (x := x) (by rw [Below.heap_alloc _ _ _ (lt_of_block hv)]; exact hv) hg hown
  exact ⟨_, rfl, s1, ((Below.refl B w).alloc h.lt _).trans s2, ((Kept.refl w).alloc _).trans s3⟩

/-- The world behind the switch's head: a token has been read into a box, i moved on, the place boxed. -/
theorem enter_world {w : World} {B bi bo i : Nat} {e : List Norm} (h : St w B bi bo i e) (K V row : Int) (S : ByteArray) :
    ∃ W, ((w.setCell ⟨bi, 0, none⟩ (.int .i64 ((i : Int) + 1))).alloc (.cells #[.int .u8 K, .int .i64 V, .string S] 35)).alloc (.cells #[.int .i64 row, .int .i64 (i : Int)] 42) = W ∧ St W B bi bo (i + 1) e ∧
      w.heap.size + 2 ≤ W.heap.size ∧ W.heap[w.heap.size]? = some (.cells #[.int .u8 K, .int .i64 V, .string S] 35 (0, 0)) ∧ W.heap[w.heap.size + 1]? = some (.cells #[.int .i64 row, .int .i64 (i : Int)] 42 (0, 0)) ∧ Below B w W ∧ Kept w W := by
  obtain ⟨s1, s2, s3⟩ := h.step (i + 1)
  have ec : ((i + 1 : Nat) : Int) = (i : Int) + 1 := by omega
  rw [ec] at s1 s2 s3
  have hsz := size_setCell w ⟨bi, 0, none⟩ (.int .i64 ((i : Int) + 1))
  generalize w.setCell ⟨bi, 0, none⟩ (.int .i64 ((i : Int) + 1)) = u at *
  refine ⟨_, rfl, (s1.alloc _).alloc _, by simp [hsz], ?_, ?_, ((s2.alloc s1.lt _).alloc (s1.alloc _).lt _), (s3.alloc _).alloc _⟩
  · rw [← hsz, Below.heap_alloc _ _ _ (by simp)]; exact heap_alloc_new u _
  · have : w.heap.size + 1 = (u.alloc (.cells #[.int .u8 K, .int .i64 V, .string S] 35)).heap.size := by simp [hsz]
    rw [this]; exact heap_alloc_new _ _
end Go.Proofs.YbulkbuxwDoor
