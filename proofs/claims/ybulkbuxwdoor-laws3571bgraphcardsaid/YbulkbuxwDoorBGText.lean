/-
  AppendText at a name, out of nil; the string of what it leaves.
-/
import Derived.Test.YbulkbuxwDoorRows
import Derived.Test.YbulkbuxwDoorBHeap
import Derived.Test.YbulkbuxwDoorBFacts
import Derived.WalkSpells
import Derived.Lib.SlBytesRow
import Derived.Lib.BufferRead
namespace Go.Proofs.YbulkbuxwDoor
open Go.RowKit
set_option linter.unusedVariables false

theorem info5 : (Ybad.prog.info? 5).map (fun i => (i.zero, i.size, i.bytes)) = some (some (.int .u8 0), 1, 1) := by kernel_rfl

/-- What AppendText(nil, name) leaves: bytes that read as the name's text. -/
def TextPost (w : World) (s : ByteArray) (r : Ending) (w' : World) : Prop :=
  ∃ a cap, r = .returned (.slice a s.size cap) ∧ (convert 83 9 (.slice a s.size cap)).run Ybad.prog w' = .ok (.string s) w' ∧ Below w.heap.size w w' ∧ w.heap.size ≤ w'.heap.size

theorem text_bytes (w : World) (s : ByteArray) (Z : Array Value) (k : Nat) (hk : k = w.heap.size) : Go.Lib.Bytes (w.alloc (.cells ((s.data.map (fun b => Value.int .u8 (b.toNat : Int))).extract 0 s.size ++ Z) 5)).drew k 0 s := by
  subst hk
  intro i hi
  have h1 : (w.alloc (.cells ((s.data.map (fun b => Value.int .u8 (b.toNat : Int))).extract 0 s.size ++ Z) 5)).drew.heap[w.heap.size]? = some (.cells ((s.data.map (fun b => Value.int .u8 (b.toNat : Int))).extract 0 s.size ++ Z) 5 (0, 0)) := heap_alloc_new w _
  have hsz : ((s.data.map (fun b => Value.int .u8 (b.toNat : Int))).extract 0 s.size).size = s.size := by
    simp only [Array.size_extract, Array.size_map]
    show min s.size s.size - 0 = s.size
    omega
  rw [cell_of_row _ _ _ _ _ _ h1, Array.getElem?_append_left (by omega), Array.getElem?_extract]
  have hi2 : i < s.data.size := hi
  have hi3 : 0 + i < min s.size (s.data.map (fun b => Value.int .u8 (b.toNat : Int))).size - 0 := by simp; exact hi
  rw [if_pos hi3]
  simp
  exact ⟨s[i], by rw [Array.getElem?_eq_getElem hi2]; rfl, rfl⟩

set_option maxHeartbeats 1000000 in
set_option maxRecDepth 100000 in
theorem text_some (q : Nat) (r c : Value) (s : ByteArray) (w : World) (hq : w.heap[q]? = some (.cells #[r, c, .string s] 49 (0, 0))) (h0 : 0 < s.size) (hs : s.size ≤ 140737488351232) :
    Calls Ybad.prog 14 #[.slice none 0 0, .iface 47 (.pointer (some ⟨q, 0, none⟩))] w fun r w' => TextPost w s r w' := by
  obtain ⟨i0, hi, hz0, hz1, hz2⟩ := info_parts info5
  have hcap : ¬ 281474976710656 < Builtin.nextslicecap s.size 0 * Ybad.t5.bytes := by
    have h5 : Ybad.t5.bytes = 1 := by kernel_rfl
    rw [nextslicecap_zero h0, h5]; omega
  have cs : w.cell? ⟨q, 2, none⟩ = some (.string s) := by simp [World.cell?, hq]
  have hty := as_47_47
  go_enter Ybad.func14, Ybad.ntmps14
  go_wp2_with fail
  go_ret
  exact ⟨_, _, rfl, Go.Lib.run_convert_whole _ 83 5 9 Ybad.underlying83 Ybad.underlying5 Ybad.underlying9 _ 0 s (text_bytes w s _ _ rfl) _, ((Below.refl _ w).alloc (Nat.le_refl _) _).drew, by simp⟩

set_option maxHeartbeats 1000000 in
set_option maxRecDepth 100000 in
theorem text_none (q : Nat) (r c : Value) (s : ByteArray) (w : World) (hq : w.heap[q]? = some (.cells #[r, c, .string s] 49 (0, 0))) (h0 : s.size = 0) :
    Calls Ybad.prog 14 #[.slice none 0 0, .iface 47 (.pointer (some ⟨q, 0, none⟩))] w fun r w' => TextPost w s r w' := by
  have cs : w.cell? ⟨q, 2, none⟩ = some (.string s) := by simp [World.cell?, hq]
  have hty := as_47_47
  have hs : s = ⟨#[]⟩ := by
    apply ByteArray.ext
    exact Array.eq_empty_of_size_eq_zero h0
  subst hs
  clear h0
  go_enter Ybad.func14, Ybad.ntmps14
  go_wp2_with fail
  go_ret
  exact ⟨none, 0, rfl, Go.Lib.run_convert_nil_bytes w 83 9 5 0 Ybad.underlying83 Ybad.underlying5 Ybad.underlying9, Below.refl _ _, Nat.le_refl _⟩

/-- AppendText(nil, name). -/
theorem text_any (q : Nat) (r c : Value) (s : ByteArray) (w : World) (hq : w.heap[q]? = some (.cells #[r, c, .string s] 49 (0, 0))) (hs : s.size ≤ 140737488351232) :
    Calls Ybad.prog 14 #[.slice none 0 0, .iface 47 (.pointer (some ⟨q, 0, none⟩))] w fun r w' => TextPost w s r w' := by
  by_cases h0 : s.size = 0
  · exact text_none q r c s w hq h0
  · exact text_some q r c s w hq (by omega) hs
end Go.Proofs.YbulkbuxwDoor
