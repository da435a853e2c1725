/-
  slices.Delete of one edge that is not the last.
-/
import Derived.Test.YbulkbuxwDoorRows
import Derived.Test.YbulkbuxwDoorBGRow
import Derived.WalkSpells
import Derived.Deep.RegionLaw
import Derived.Lib.SlBytesRow
namespace Go.Proofs.YbulkbuxwDoor
open Go.RowKit
set_option linter.unusedVariables false

/-- 'clear' of one cell. -/
theorem run_clear_one (w : World) (g o n c : Nat) (x : Value) (hn : n = 1) (hc : w.cell? ⟨g, o, none⟩ = some x) (hf : w.frozen? ⟨g, o, none⟩ = false) :
    (Builtin.clear_ #[76] 0 #[.slice (some ⟨g, o, none⟩) n c]).run Ybad.prog w = .ok (.tuple #[]) (w.setCell ⟨g, o, none⟩ .nilIface) := by
  subst hn
  obtain ⟨i0, hi, hz0, hz1, hz2⟩ := info_parts info24
  have hst := run_storeCells_cells (P := Ybad.prog) g o [.nilIface] 0 w (fun j hj => by
      have : j = 0 := by simp at hj; exact hj
      subst this; simp [hc]) (fun j hj => by
      have : j = 0 := by simp at hj; exact hj
      subst this; simp [hf]) (by simp [Value.oneCell'])
  simp only [Nat.add_zero, World.setCells] at hst
  have hzc : (Builtin.zeroCells (Value.nilIface).cells 1).toList = [.nilIface] := by simp [Builtin.zeroCells, Value.cells]
  simp [Builtin.clear_, run_underlying Ybad.underlying76, zeroValue, typeInfo, hi, hz0, hzc, hst]

set_option maxHeartbeats 2000000 in
set_option maxRecDepth 100000 in
theorem delete_mid (g m cap k : Nat) (news : List Value) (w W1 : World) (hm : m ≤ 1000000) (hk : k + 1 < m) (hmc : m ≤ cap)
    (hnl : news.length = (m - (k + 1)) * 1)
    (hnc : ∀ j u, news[j]? = some u → w.drew.cell? ((⟨g, k + 1, none⟩ : Addr).add j) = some u)
    (hn1 : ∀ u ∈ news, u.oneCell' = true)
    (hsp : ∀ j, j < news.length → (w.drew.cell? ⟨g, 0 + k * 1 + j, none⟩).isSome = true ∧ w.drew.frozen? ⟨g, 0 + k * 1 + j, none⟩ = false)
    (hW1 : w.drew.setCells g (0 + k * 1) news = W1) (x : Value) (hc1 : W1.cell? ⟨g, m - 1, none⟩ = some x) (hf1 : W1.frozen? ⟨g, m - 1, none⟩ = false) :
    Calls Ybad.prog 17 #[.slice (some ⟨g, 0, none⟩) m cap, .int .i64 k, .int .i64 ((k : Int) + 1)] w fun r w' => r = .returned (.slice (some ⟨g, 0, none⟩) (m - 1) cap) ∧ w' = W1.setCell ⟨g, m - 1, none⟩ .nilIface := by
  have h1 : ¬ cap = k := by omega
  have h2 : ¬ cap = k + 1 := by omega
  have h3 : ¬ cap = 0 := by omega
  have h4 : k ≤ cap := by omega
  have h5 : k + 1 ≤ m := by omega
  have h6 : k + 1 ≤ cap := by omega
  have h7 : 0 ≤ (k : Int) + 1 := by omega
  have h8 : (k : Int) + 1 ≤ (m : Int) := by omega
  have hkm : k + (m - (k + 1)) = m - 1 := by omega
  obtain ⟨i0, hi, hz0, hz1, hz2⟩ := info_parts info24
  have HN : Hid (∀ j u, news[j]? = some u → w.drew.cell? ((⟨g, k + 1, none⟩ : Addr).add j) = some u) := hnc
  have HS : Hid (∀ j, j < news.length → (w.drew.cell? ⟨g, 0 + k * 1 + j, none⟩).isSome = true ∧ w.drew.frozen? ⟨g, 0 + k * 1 + j, none⟩ = false) := hsp
  have HO : Hid (∀ u ∈ news, u.oneCell' = true) := hn1
  have HW : Hid (w.drew.setCells g (0 + k * 1) news = W1) := hW1
  have HK : Hid (k + (m - (k + 1)) = m - 1) := hkm
  clear hnc hsp hn1 hW1 hkm
  go_enter Ybad.func17, Ybad.ntmps17
  go_wp2_with fail
  go_region_law ((refine step_append_room (by rfl) _ _ 76 (by rfl) 24 i0 1 Ybad.underlying76 hi hz1 g 0 k cap (by rfl) ⟨g, k + 1, none⟩ (m - (k + 1)) (cap - (k + 1)) news (by rfl) hnl HN.out HO.out (by omega) HS.out ?_; rw [HW.out, HK.out]))
  clear HN HS HO HW HK hnl
  have hcl := run_clear_one W1 g (m - 1) (m - (m - 1)) (cap - (m - 1)) x (by omega) hc1 hf1
  go_wp2_with fail
  go_ret
  exact ⟨rfl, rfl⟩

end Go.Proofs.YbulkbuxwDoor
