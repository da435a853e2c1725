/-
  PLAIN: what zzs3571bbuild writes (prefix encodings), how far it reads, and that prefix encodings are a prefix code. No Go in this text.
-/
namespace Go.Proofs.YbulkbuxwDoor

/-- One normal token: its kind, its number, its text. -/
abbrev Norm := Int × Int × ByteArray
def nils : ByteArray := ⟨#[]⟩
/-- The tokens of a stream: kind, number, text of token i. -/
structure Toks where
  kind : Nat → Int
  val : Nat → Int
  str : Nat → ByteArray

/-- How many elements a tuple token asks for. -/
def arity (v : Int) : Nat := (v % 4).toNat
theorem arity_le (v : Int) : arity v ≤ 3 := by unfold arity; omega

/-- m trees, one behind the other: g gives what one tree writes and where it stops. -/
def encMany (g : Nat → List Norm × Nat) : Nat → Nat → List Norm × Nat
  | 0, i => ([], i)
  | m + 1, i => ((encMany g m i).1 ++ (g (encMany g m i).2).1, (g (encMany g m i).2).2)

/-- One tree from token i on, of n tokens; the fuel bounds the depth. -/
def encF (T : Toks) (n : Nat) : Nat → Nat → List Norm × Nat
  | 0, i => ([(0, 0, nils)], i)
  | f + 1, i =>
    if n ≤ i then ([(0, 0, nils)], i)
    else if T.kind i % 4 = 0 then ([(0, T.val i, nils)], i + 1)
    else if T.kind i % 4 = 1 then ([(1, 0, T.str i)], i + 1)
    else if T.kind i % 4 = 2 then ((2, 0, nils) :: (encMany (encF T n f) 2 (i + 1)).1, (encMany (encF T n f) 2 (i + 1)).2)
    else ((3, (arity (T.val i) : Int), nils) :: (encMany (encF T n f) (arity (T.val i)) (i + 1)).1, (encMany (encF T n f) (arity (T.val i)) (i + 1)).2)

/-- A tree's end and its length. -/
def Bd (n : Nat) (m : Nat) (i : Nat) (p : List Norm × Nat) : Prop := i ≤ p.2 ∧ p.2 ≤ n ∧ p.1.length ≤ 3 * (p.2 - i) + m

theorem encMany_bd {n : Nat} {g : Nat → List Norm × Nat} (hg : ∀ i, i ≤ n → Bd n 1 i (g i)) : ∀ (m i : Nat), i ≤ n → Bd n m i (encMany g m i)
  | 0, i, h => ⟨Nat.le_refl _, h, Nat.zero_le _⟩
  | m + 1, i, h => by
    obtain ⟨a1, a2, a3⟩ := encMany_bd hg m i h
    obtain ⟨b1, b2, b3⟩ := hg _ a2
    refine ⟨?_, b2, ?_⟩
    · show i ≤ (g (encMany g m i).2).2; omega
    · show ((encMany g m i).1 ++ (g (encMany g m i).2).1).length ≤ 3 * ((g (encMany g m i).2).2 - i) + (m + 1)
      rw [List.length_append]; omega

theorem encF_bd (T : Toks) (n : Nat) : ∀ (f i : Nat), i ≤ n → Bd n 1 i (encF T n f i)
  | 0, i, h => ⟨Nat.le_refl _, h, by simp [encF]⟩
  | f + 1, i, h => by
    have ih := encF_bd T n f
    unfold encF
    by_cases h0 : n ≤ i
    · rw [if_pos h0]; exact ⟨Nat.le_refl _, h, by simp⟩
    rw [if_neg h0]
    split
    · exact ⟨by simp, by simp; omega, by simp⟩
    split
    · exact ⟨by simp, by simp; omega, by simp⟩
    split
    · obtain ⟨a1, a2, a3⟩ := encMany_bd ih 2 (i + 1) (by omega)
      exact ⟨by show i ≤ (encMany (encF T n f) 2 (i + 1)).2; omega, a2, by simp only [List.length_cons]; omega⟩
    · have ha := arity_le (T.val i)
      obtain ⟨a1, a2, a3⟩ := encMany_bd ih (arity (T.val i)) (i + 1) (by omega)
      exact ⟨by show i ≤ (encMany (encF T n f) (arity (T.val i)) (i + 1)).2; omega, a2, by simp only [List.length_cons]; omega⟩

/-- How many trees follow a normal token. -/
def ar (x : Norm) : Nat := if x.1 = 2 then 2 else if x.1 = 3 then x.2.1.toNat else 0

/-- A well-formed encoding: a normal token, then as many well-formed encodings as it asks for. -/
def WfE : Nat → List Norm → Prop
  | 0, _ => False
  | f + 1, e => ∃ (x : Norm) (es : List (List Norm)), es.length = ar x ∧ (∀ y ∈ es, WfE f y) ∧ e = x :: es.flatten

/-- THE PREFIX LAW: of two well-formed encodings that begin one list neither is longer. -/
theorem wf_prefix : ∀ (f f' : Nat) (e e' r r' : List Norm), WfE f e → WfE f' e' → e ++ r = e' ++ r' → e = e' ∧ r = r'
  | 0, _, _, _, _, _, h, _, _ => h.elim
  | _ + 1, 0, _, _, _, _, _, h, _ => h.elim
  | f + 1, f' + 1, e, e', r, r', h, h', he => by
    obtain ⟨x, es, hl, hw, rfl⟩ := h
    obtain ⟨x', es', hl', hw', rfl⟩ := h'
    simp only [List.cons_append, List.cons.injEq] at he
    obtain ⟨rfl, he⟩ := he
    have many : ∀ (es es' : List (List Norm)) (r r' : List Norm), es.length = es'.length → (∀ y ∈ es, WfE f y) → (∀ y ∈ es', WfE f' y) → es.flatten ++ r = es'.flatten ++ r' → es = es' ∧ r = r' := by
      intro es
      induction es with
      | nil =>
        intro es' r r' hl _ _ he
        match es', hl with
        | [], _ => exact ⟨rfl, by simpa using he⟩
      | cons y ys ih =>
        intro es' r r' hl hw hw' he
        match es', hl with
        | y' :: ys', hl =>
          simp only [List.flatten_cons, List.append_assoc] at he
          obtain ⟨rfl, he2⟩ := wf_prefix f f' y y' _ _ (hw y (by simp)) (hw' y' (by simp)) he
          obtain ⟨rfl, rfl⟩ := ih ys' r r' (by simpa using hl) (fun z hz => hw z (by simp [hz])) (fun z hz => hw' z (by simp [hz])) he2
          exact ⟨rfl, rfl⟩
    obtain ⟨rfl, rfl⟩ := many es es' r r' (hl.trans hl'.symm) hw hw' he
    exact ⟨rfl, rfl⟩

/-- Lists of well-formed encodings, equally many: equal if their joins are. -/
theorem wf_many {f f' : Nat} : ∀ (es es' : List (List Norm)) (r r' : List Norm), es.length = es'.length → (∀ y ∈ es, WfE f y) → (∀ y ∈ es', WfE f' y) → es.flatten ++ r = es'.flatten ++ r' → es = es' ∧ r = r'
  | [], [], r, r', _, _, _, he => ⟨rfl, by simpa using he⟩
  | y :: ys, y' :: ys', r, r', hl, hw, hw', he => by
    simp only [List.flatten_cons, List.append_assoc] at he
    obtain ⟨rfl, he2⟩ := wf_prefix f f' y y' _ _ (hw y (by simp)) (hw' y' (by simp)) he
    obtain ⟨rfl, rfl⟩ := wf_many ys ys' r r' (by simpa using hl) (fun z hz => hw z (by simp [hz])) (fun z hz => hw' z (by simp [hz])) he2
    exact ⟨rfl, rfl⟩

/-- Two encodings are the same list. -/
def eqE (e e' : List Norm) : Bool := decide (e = e')
theorem eqE_comm (e e' : List Norm) : eqE e e' = eqE e' e := by
  unfold eqE; rw [Bool.eq_iff_iff]; simp; exact ⟨Eq.symm, Eq.symm⟩
end Go.Proofs.YbulkbuxwDoor
