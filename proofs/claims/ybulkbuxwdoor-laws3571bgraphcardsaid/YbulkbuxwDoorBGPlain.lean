/-
  THE PLAIN LAW OF sameGraph: entries told by text and encoding; greedy pairing is equality up to order. No Go in this text.
-/
import Derived.Test.YbulkbuxwDoorBPlain
namespace Go.Proofs.YbulkbuxwDoor
set_option linter.unusedVariables false

/-- An entry: the pattern's text, the edge's encoding. -/
abbrev Ent := ByteArray × List Norm

/-- The edges that stand with one text, in order. -/
def grp : List Ent → ByteArray → List (List Norm)
  | [], _ => []
  | x :: r, t => if x.1 = t then x.2 :: grp r t else grp r t

theorem grp_snoc (bs : List Ent) (x : Ent) (t : ByteArray) : grp (bs ++ [x]) t = if x.1 = t then grp bs t ++ [x.2] else grp bs t := by
  induction bs with
  | nil => simp [grp]
  | cons y r ih =>
    simp only [List.cons_append, grp, ih]
    by_cases h : y.1 = t <;> by_cases h' : x.1 = t <;> simp [h, h']

theorem mem_grp (bs : List Ent) (s : ByteArray) (e : List Norm) : e ∈ grp bs s ↔ (s, e) ∈ bs := by
  induction bs with
  | nil => simp [grp]
  | cons y r ih =>
    obtain ⟨t, d⟩ := y
    simp only [grp, List.mem_cons, Prod.mk.injEq]
    by_cases h : t = s
    · subst h; simp [ih]
    · have h2 : ¬ s = t := fun h' => h h'.symm
      simp [h, h2, ih]

/-- The list without the first place where a stands. -/
def del1 {α : Type} [DecidableEq α] (a : α) : List α → List α
  | [] => []
  | x :: r => if x = a then r else x :: del1 a r

theorem del1_perm {α : Type} [DecidableEq α] (a : α) : ∀ l : List α, a ∈ l → l.Perm (a :: del1 a l)
  | [], h => by simp at h
  | x :: r, h => by
    by_cases hx : x = a
    · subst hx
      simp [del1]
    · have hr : a ∈ r := by
        rcases List.mem_cons.1 h with h1 | h1
        · exact absurd h1.symm hx
        · exact h1
      have ih := del1_perm a r hr
      simp only [del1, hx, if_false]
      exact (ih.cons x).trans (List.Perm.swap a x _)

theorem grp_del_same (bs : List Ent) (s : ByteArray) (e : List Norm) : grp (del1 (s, e) bs) s = del1 e (grp bs s) := by
  induction bs with
  | nil => simp [grp, del1]
  | cons y r ih =>
    obtain ⟨t, d⟩ := y
    by_cases h : t = s
    · subst h
      by_cases hd : d = e
      · subst hd; simp [grp, del1]
      · simp [grp, del1, hd, ih]
    · simp [grp, del1, h, ih]

theorem grp_del_other (bs : List Ent) (s t : ByteArray) (e : List Norm) (h : t ≠ s) : grp (del1 (s, e) bs) t = grp bs t := by
  induction bs with
  | nil => simp [grp, del1]
  | cons y r ih =>
    obtain ⟨u, d⟩ := y
    by_cases h1 : u = s ∧ d = e
    · obtain ⟨rfl, rfl⟩ := h1
      have h2 : ¬ u = t := fun h' => h h'.symm
      simp [grp, del1, h2]
    · simp [grp, del1, h1, ih]

/-- To erase is to strike out the first place where it stands. -/
theorem del1_first {α : Type} [DecidableEq α] (e : α) : ∀ (l : List α) (i : Nat), l[i]? = some e → (∀ j, j < i → l[j]? ≠ some e) → del1 e l = l.eraseIdx i
  | [], i, h, _ => by simp at h
  | x :: r, 0, h, _ => by
    simp at h
    subst h
    simp [del1]
  | x :: r, i + 1, h, hn => by
    have hx : ¬ x = e := fun hx => hn 0 (by omega) (by simp [hx])
    have ih := del1_first e r i (by simpa using h) (fun j hj => by
      have := hn (j + 1) (by omega)
      simpa using this)
    simp [del1, hx, ih]

/-- One pairing. -/
theorem pair_step (a : Ent) (as bs : List Ent) (i : Nat) (h : (grp bs a.1)[i]? = some a.2) : (a :: as).Perm bs ↔ as.Perm (del1 a bs) := by
  have hm : a ∈ bs := by
    have := List.mem_of_getElem? h
    exact (mem_grp bs a.1 a.2).1 this
  have hp := del1_perm a bs hm
  exact ⟨fun h => (h.trans hp).cons_inv, fun h => (h.cons a).trans hp.symm⟩

theorem pair_none (a : Ent) (as bs : List Ent) (h : ∀ j : Nat, (grp bs a.1)[j]? ≠ some a.2) : ¬ (a :: as).Perm bs := by
  intro hp
  have hm : a ∈ bs := hp.mem_iff.1 (by simp)
  have := (mem_grp bs a.1 a.2).2 hm
  obtain ⟨j, hj⟩ := List.getElem?_of_mem this
  exact h j hj

/-- The encoding of '0 < edge'. -/
def wrapped (e : List Norm) : List Norm := (2, 0, nils) :: ([(0, 0, nils)] ++ e)

theorem sum_wrap (f g : Nat → Nat) (k : Nat) (h : ∀ j, g j = if j = k then f j + 2 else f j) : ∀ n, ((List.range n).map g).sum = ((List.range n).map f).sum + if k < n then 2 else 0
  | 0 => by simp
  | n + 1 => by
    have ih := sum_wrap f g k h n
    have e1 : ((List.range (n + 1)).map g).sum = ((List.range n).map g).sum + g n := by rw [List.range_succ]; simp
    have e2 : ((List.range (n + 1)).map f).sum = ((List.range n).map f).sum + f n := by rw [List.range_succ]; simp
    rw [e1, e2, ih, h n]
    by_cases h1 : n = k
    · subst h1
      simp
      omega
    · by_cases h2 : k < n
      · have h3 : k < n + 1 := by omega
        simp [h1, h2, h3]; omega
      · have h3 : ¬ k < n + 1 := by omega
        simp [h1, h2, h3]

/-- The wrapped graph is another. -/
theorem not_perm_wrap (p : Nat → ByteArray) (e : Nat → List Norm) (k n : Nat) (hk : k < n) :
    ¬ ((List.range n).map fun j => ((p j, e j) : Ent)).Perm ((List.range n).map fun j => ((p j, if j = k then wrapped (e j) else e j) : Ent)).reverse := by
  intro hp
  have h1 := (hp.trans (List.reverse_perm _)).map (fun x : Ent => x.2.length)
  have h2 := h1.sum_nat
  rw [List.map_map, List.map_map] at h2
  have h3 := sum_wrap ((fun x : Ent => x.2.length) ∘ fun j => (p j, e j)) ((fun x : Ent => x.2.length) ∘ fun j => (p j, if j = k then wrapped (e j) else e j)) k (fun j => by
    by_cases hj : j = k
    · simp [hj, wrapped]
    · simp [hj]) n
  rw [if_pos hk] at h3
  omega

end Go.Proofs.YbulkbuxwDoor
