/-
  A slice of entries that came in, opened into what the walk of LawS3571BGraph asks.
-/
import Derived.Test.YbulkbuxwDoorBOpen2
import Derived.Test.YbulkbuxwDoorBGLawPlain
namespace Go.Proofs.YbulkbuxwDoor
open Go.RowKit Go.Deep

theorem cells39 : Ybad.prog.cellsOf 39 = 2 := by kernel_rfl
theorem cells22 : Ybad.prog.cellsOf 22 = 1 := by kernel_rfl
theorem list2 {α : Type} : ∀ {l : List α}, l.length = 2 → ∃ a b, l = [a, b]
  | [a, b], _ => ⟨a, b, rfl⟩

theorem ent_weights {H : Type} {d1 : DataW H} {bs : List UInt8} : bs.length ∈ (DataW.agg [.lit (.string bs), d1] : DataW H).weights Ybad.prog 39 := by
  simp [DataW.weights, Ybad.underlying39, DataW.weightsEach]

/-- The value of a slice type is a slice. -/
theorem slice_shape {H : Type} {enc : TypeId × Value → H} {W : World} {spare : Nat → Bool} {held : Bool} {fuel : Nat} {v : Value} {x : DataW H × List MemPlace}
    (h : DataW.trod enc Ybad.prog W 0 spare held fuel 22 [v] = some x) : ∃ a l c, v = .slice a l c := by
  rcases open_slice Ybad.underlying22 h with ⟨hcs, _⟩ | ⟨ad, l, c, m, n, D, Pl, hcs, _⟩
  · simp at hcs
    exact ⟨_, _, _, hcs⟩
  · simp at hcs
    exact ⟨_, _, _, hcs⟩

theorem ents_of_trod {H : Type} {enc : TypeId × Value → H} {W : World} {spare : Nat → Bool} {held : Bool} {fuel : Nat} {a : Option Addr} {len cap : Nat} {d : DataW H} {pl : List MemPlace}
    (h : DataW.trod enc Ybad.prog W 0 spare held fuel 37 [.slice a len cap] = some (d, pl)) (hs : ∀ n ∈ d.weights Ybad.prog 37, n ≤ 140737488351232) : ∃ X, EntsAt W W.heap.size a len X := by
  rcases open_slice Ybad.underlying37 h with ⟨hcs, _⟩ | ⟨ad, l, c, m, n, D, Pl, hcs, _, hl, _, hmm, hx0, hx⟩
  · simp at hcs
    obtain ⟨rfl, rfl, rfl⟩ := hcs
    exact ⟨⟨fun _ => nils, fun _ => none, fun _ => 0, fun _ => 0, fun _ => ⟨fun _ => 0, fun _ => 0, fun _ => nils⟩⟩, fun j hj => absurd hj (Nat.not_lt_zero j)⟩
  simp at hcs
  obtain ⟨rfl, rfl, rfl⟩ := hcs
  have hlm : len ≤ m := by rw [hmm]; split <;> omega
  by_cases h0 : len = 0
  · subst h0
    exact ⟨⟨fun _ => nils, fun _ => none, fun _ => 0, fun _ => 0, fun _ => ⟨fun _ => 0, fun _ => 0, fun _ => nils⟩⟩, fun j hj => absurd hj (Nat.not_lt_zero j)⟩
  simp only [Prod.mk.injEq] at hx0
  have hD : ∀ i, i < len → ∀ k ∈ (D i).weights Ybad.prog 39, k ≤ 140737488351232 := fun i hi k hk => by
    refine hs k ?_
    rw [hx0.1]
    simp only [DataW.weights, Ybad.underlying37, List.mem_cons, List.mem_append]
    exact .inr (.inl (weightsAll_mem (List.mem_map.2 ⟨i, List.mem_range.2 hi, rfl⟩) k hk))
  have each : ∀ i, i < len → ∃ q : ByteArray × Option Addr × Nat × Nat × (Nat → Int) × (Nat → Int) × (Nat → ByteArray), W.cell? (ad.add (i * 2)) = some (.string q.1) ∧ W.cell? (ad.add (i * 2 + 1)) = some (.slice q.2.1 q.2.2.1 q.2.2.2.1) ∧
      q.1.size ≤ 140737488351232 ∧ TokAt W W.heap.size q.2.1 q.2.2.1 ⟨q.2.2.2.2.1, q.2.2.2.2.2.1, q.2.2.2.2.2.2⟩ := by
    intro i hi
    obtain ⟨cs', h1, h2⟩ := hx i (by omega)
    rw [cells39] at h1
    obtain ⟨_, hlen, hcell⟩ := World.cells?_some h1
    obtain ⟨y0, y1, k, hDi, _, g0, g1⟩ := ChangeShapes.trod_struct2 Ybad.underlying39 h2
    obtain ⟨v0, v1, rfl⟩ := list2 hlen
    simp only [cells9', cells22] at g0 g1
    obtain ⟨ss, e0, x0, _⟩ := DataW.trod_string Ybad.underlying9 g0
    have g1' : DataW.trod enc Ybad.prog W 0 spare held k 22 [v1] = some y1 := by simpa using g1
    obtain ⟨ta, tl, tc, rfl⟩ := slice_shape g1'
    obtain ⟨T, hT⟩ := tok_of_trod g1'
    simp at e0
    subst e0
    have a0 := hcell 0 (by omega)
    have a1 := hcell 1 (by omega)
    rw [add_add] at a0 a1
    have hw : ss.data.toList.length ≤ 140737488351232 := by
      refine hD i hi _ ?_
      simp only [Prod.mk.injEq] at hDi
      rw [hDi.1, x0]
      exact ent_weights
    exact ⟨(ss, ta, tl, tc, T.kind, T.val, T.str), by simpa using a0, by simpa using a1, by simpa using hw, hT⟩
  obtain ⟨q, hq⟩ := choose_lt each
  obtain ⟨b, off, spot⟩ := ad
  have hspot : spot = none := by simpa [Addr.add] using World.cell?_spot (hq 0 (by omega)).1
  subst hspot
  refine ⟨⟨fun i => (q i).1, fun i => (q i).2.1, fun i => (q i).2.2.1, fun i => (q i).2.2.2.1, fun i => ⟨(q i).2.2.2.2.1, (q i).2.2.2.2.2.1, (q i).2.2.2.2.2.2⟩⟩, fun j hj => ?_⟩
  obtain ⟨a0, a1, b0, b1⟩ := hq j hj
  rw [addr_plain] at a0 a1
  exact ⟨b, off, rfl, World.block_lt_of_cell? W _ a0, a0, a1, b0, b1⟩
end Go.Proofs.YbulkbuxwDoor
