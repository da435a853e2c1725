/-
  A slice of tokens that came in, opened, with the row's own bound on its strings.
-/
import Derived.Test.YbulkbuxwDoorBOpen
import Derived.SizedLaws
namespace Go.Proofs.YbulkbuxwDoor
open Go.RowKit Go.Deep

theorem weightsAll_mem {H : Type} {P : Program} {e : TypeId} : ∀ {ds : List (DataW H)} {d : DataW H}, d ∈ ds → ∀ n ∈ d.weights P e, n ∈ DataW.weightsAll P e ds
  | d0 :: r, d, hd, n, hn => by
    simp only [DataW.weightsAll, List.mem_append]
    rcases List.mem_cons.1 hd with rfl | h
    · exact .inl hn
    · exact .inr (weightsAll_mem h n hn)

/-- What a token reads as. -/
theorem tok_weights {H : Type} {d0 d1 : DataW H} {bs : List UInt8} : bs.length ∈ (DataW.agg [d0, d1, .lit (.string bs)] : DataW H).weights Ybad.prog 35 := by
  simp [DataW.weights, Ybad.underlying35, DataW.weightsEach]

theorem tok_of_trod2 {H : Type} {enc : TypeId × Value → H} {W : World} {spare : Nat → Bool} {held : Bool} {fuel : Nat} {a : Option Addr} {len cap : Nat} {d : DataW H} {pl : List MemPlace}
    (h : DataW.trod enc Ybad.prog W 0 spare held fuel 22 [.slice a len cap] = some (d, pl)) (hs : ∀ n ∈ d.weights Ybad.prog 22, n ≤ 140737488351232) :
    ∃ T, TokAt W W.heap.size a len T ∧ ∀ j, j < len → (T.str j).size ≤ 140737488351232 := by
  rcases open_slice Ybad.underlying22 h with ⟨hcs, _⟩ | ⟨ad, l, c, m, n, D, Pl, hcs, _, hl, _, hmm, hx0, hx⟩
  · simp at hcs
    obtain ⟨rfl, rfl, rfl⟩ := hcs
    exact ⟨⟨fun _ => 0, fun _ => 0, fun _ => nils⟩, fun j hj => absurd hj (Nat.not_lt_zero j), fun j hj => absurd hj (Nat.not_lt_zero j)⟩
  simp at hcs
  obtain ⟨rfl, rfl, rfl⟩ := hcs
  have hlm : len ≤ m := by rw [hmm]; split <;> omega
  by_cases h0 : len = 0
  · subst h0
    exact ⟨⟨fun _ => 0, fun _ => 0, fun _ => nils⟩, fun j hj => absurd hj (Nat.not_lt_zero j), fun j hj => absurd hj (Nat.not_lt_zero j)⟩
  simp only [Prod.mk.injEq] at hx0
  have hD : ∀ i, i < len → ∀ k ∈ (D i).weights Ybad.prog 35, k ≤ 140737488351232 := fun i hi k hk => by
    refine hs k ?_
    rw [hx0.1]
    simp only [DataW.weights, Ybad.underlying22, List.mem_cons, List.mem_append]
    exact .inr (.inl (weightsAll_mem (List.mem_map.2 ⟨i, List.mem_range.2 hi, rfl⟩) k hk))
  have each : ∀ i, i < len → ∃ q : Int × Int × ByteArray, W.cell? (ad.add (i * 3)) = some (.int .u8 q.1) ∧ W.cell? (ad.add (i * 3 + 1)) = some (.int .i64 q.2.1) ∧ W.cell? (ad.add (i * 3 + 2)) = some (.string q.2.2) ∧ 0 ≤ q.1 ∧ q.1 ≤ 255 ∧ q.2.2.size ≤ 140737488351232 := by
    intro i hi
    obtain ⟨cs', h1, h2⟩ := hx i (by omega)
    rw [cells35] at h1
    obtain ⟨_, hlen, hcell⟩ := World.cells?_some h1
    obtain ⟨y0, y1, y2, k, hDi, _, g0, g1, g2⟩ := trod_struct3 Ybad.underlying35 h2
    obtain ⟨v0, v1, v2, rfl⟩ := list3 hlen
    simp only [cells5, cells2, cells9'] at g0 g1 g2
    obtain ⟨kk, e0, _, wk⟩ := DataW.trod_int Ybad.underlying5 g0
    obtain ⟨vv, e1, _, _⟩ := DataW.trod_int Ybad.underlying2 g1
    obtain ⟨ss, e2, x2, _⟩ := DataW.trod_string Ybad.underlying9 g2
    simp at e0 e1 e2
    subst e0 e1 e2
    obtain ⟨b0, b1⟩ := bounds_u8 wk
    have a0 := hcell 0 (by omega)
    have a1 := hcell 1 (by omega)
    have a2 := hcell 2 (by omega)
    rw [add_add] at a0 a1 a2
    have hw : ss.data.toList.length ≤ 140737488351232 := by
      refine hD i hi _ ?_
      simp only [Prod.mk.injEq] at hDi
      rw [hDi.1, x2]
      exact tok_weights
    exact ⟨(kk, vv, ss), by simpa using a0, by simpa using a1, by simpa using a2, b0, b1, by simpa using hw⟩
  obtain ⟨q, hq⟩ := choose_lt each
  obtain ⟨b, off, spot⟩ := ad
  have hspot : spot = none := by simpa [Addr.add] using World.cell?_spot (hq 0 (by omega)).1
  subst hspot
  refine ⟨⟨fun i => (q i).1, fun i => (q i).2.1, fun i => (q i).2.2⟩, fun j hj => ?_, fun j hj => (hq j hj).2.2.2.2.2⟩
  obtain ⟨a0, a1, a2, b0, b1, _⟩ := hq j hj
  rw [addr_plain] at a0 a1 a2
  exact ⟨b, off, rfl, World.block_lt_of_cell? W _ a0, a0, a1, a2, b0, b1⟩
end Go.Proofs.YbulkbuxwDoor
