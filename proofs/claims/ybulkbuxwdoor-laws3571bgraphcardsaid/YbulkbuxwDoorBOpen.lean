/-
  A slice of tokens that came in, opened into what the walks ask.
-/
import Derived.Test.YbulkbuxwDoorBBuild
import Derived.Deep.Slices
import Derived.Deep.Strs
import Derived.ProofKit
import Derived.OpenShut
namespace Go.Proofs.YbulkbuxwDoor
open Go.RowKit Go.Deep

theorem cells35 : Ybad.prog.cellsOf 35 = 3 := by kernel_rfl
theorem cells5 : Ybad.prog.cellsOf 5 = 1 := by kernel_rfl
theorem cells2 : Ybad.prog.cellsOf 2 = 1 := by kernel_rfl
theorem cells9' : Ybad.prog.cellsOf 9 = 1 := by kernel_rfl

theorem addr_plain (b o j : Nat) : (⟨b, o, none⟩ : Addr).add j = ⟨b, o + j, none⟩ := by
  unfold Addr.add; split <;> simp_all

theorem list3 {α : Type} : ∀ {l : List α}, l.length = 3 → ∃ a b c, l = [a, b, c]
  | [a, b, c], _ => ⟨a, b, c, rfl⟩

theorem tok_of_trod {H : Type} {enc : TypeId × Value → H} {W : World} {spare : Nat → Bool} {held : Bool} {fuel : Nat} {a : Option Addr} {len cap : Nat} {x : DataW H × List MemPlace}
    (h : DataW.trod enc Ybad.prog W 0 spare held fuel 22 [.slice a len cap] = some x) : ∃ T, TokAt W W.heap.size a len T := by
  rcases open_slice Ybad.underlying22 h with ⟨hcs, _⟩ | ⟨ad, l, c, m, n, D, Pl, hcs, _, hl, _, hmm, _, hx⟩
  · simp at hcs
    obtain ⟨rfl, rfl, rfl⟩ := hcs
    exact ⟨⟨fun _ => 0, fun _ => 0, fun _ => nils⟩, fun j hj => absurd hj (Nat.not_lt_zero j)⟩
  simp at hcs
  obtain ⟨rfl, rfl, rfl⟩ := hcs
  have hlm : len ≤ m := by rw [hmm]; split <;> omega
  by_cases h0 : len = 0
  · subst h0
    exact ⟨⟨fun _ => 0, fun _ => 0, fun _ => nils⟩, fun j hj => absurd hj (Nat.not_lt_zero j)⟩
  have each : ∀ i, i < len → ∃ q : Int × Int × ByteArray, W.cell? (ad.add (i * 3)) = some (.int .u8 q.1) ∧ W.cell? (ad.add (i * 3 + 1)) = some (.int .i64 q.2.1) ∧ W.cell? (ad.add (i * 3 + 2)) = some (.string q.2.2) ∧ 0 ≤ q.1 ∧ q.1 ≤ 255 := by
    intro i hi
    obtain ⟨cs', h1, h2⟩ := hx i (by omega)
    rw [cells35] at h1
    obtain ⟨_, hlen, hcell⟩ := World.cells?_some h1
    obtain ⟨y0, y1, y2, k, _, _, g0, g1, g2⟩ := trod_struct3 Ybad.underlying35 h2
    obtain ⟨v0, v1, v2, rfl⟩ := list3 hlen
    simp only [cells5, cells2, cells9'] at g0 g1 g2
    obtain ⟨kk, e0, _, wk⟩ := DataW.trod_int Ybad.underlying5 g0
    obtain ⟨vv, e1, _, _⟩ := DataW.trod_int Ybad.underlying2 g1
    obtain ⟨ss, e2, _, _⟩ := DataW.trod_string Ybad.underlying9 g2
    simp at e0 e1 e2
    subst e0 e1 e2
    obtain ⟨b0, b1⟩ := bounds_u8 wk
    have a0 := hcell 0 (by omega)
    have a1 := hcell 1 (by omega)
    have a2 := hcell 2 (by omega)
    rw [add_add] at a0 a1 a2
    exact ⟨(kk, vv, ss), by simpa using a0, by simpa using a1, by simpa using a2, b0, b1⟩
  obtain ⟨q, hq⟩ := choose_lt each
  obtain ⟨b, off, spot⟩ := ad
  have hspot : spot = none := by simpa [Addr.add] using World.cell?_spot (hq 0 (by omega)).1
  subst hspot
  refine ⟨⟨fun i => (q i).1, fun i => (q i).2.1, fun i => (q i).2.2⟩, fun j hj => ?_⟩
  obtain ⟨a0, a1, a2, b0, b1⟩ := hq j hj
  rw [addr_plain] at a0 a1 a2
  exact ⟨b, off, rfl, World.block_lt_of_cell? W _ a0, a0, a1, a2, b0, b1⟩
end Go.Proofs.YbulkbuxwDoor
