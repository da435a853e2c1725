/-
  THE WALK OF zzs3571bbuild: by induction on the tokens that are left.
-/
import Derived.Test.YbulkbuxwDoorRows
import Derived.Test.YbulkbuxwDoorBHeap
import Derived.WalkSpells
import Derived.BigQuiet
import Derived.Deep.QuietTactic
import Derived.Deep.RegionLaw
import Derived.Deep.AppendLies
namespace Go.Proofs.YbulkbuxwDoor
open Go.RowKit

theorem info31 : (Ybad.prog.info? 31).map (fun i => (i.zero, i.size, i.bytes)) = some (some (.agg #[.int .u8 0, .int .i64 0, .string ⟨#[]⟩]), 3, 32) := by kernel_rfl
theorem info24 : (Ybad.prog.info? 24).map (fun i => (i.zero, i.size, i.bytes)) = some (some .nilIface, 1, 16) := by kernel_rfl

set_option maxHeartbeats 1000000 in
set_option maxRecDepth 100000 in
/-- No token is left: the number 0. -/
theorem build_end (ta : Option Addr) (n tc : Nat) (row : Int) (B bi bo : Nat) (e : List Norm) (w : World) (hst : St w B bi bo n e) (he : e.length ≤ 100000) :
    Calls Ybad.prog 12 #[.slice ta n tc, .pointer (some ⟨bi, 0, none⟩), .int .i64 row, .pointer (some ⟨bo, 0, none⟩)] w fun r w' =>
      BuildPost w B bi bo 1 n e [(0, 0, nils)] r w' := by
  obtain ⟨i0, hi, hz0, hz1, hz2⟩ := info_parts info31
  obtain ⟨a, len, cap, hob, hown⟩ := hst.ob
  have ci := cell_of_one hst.ib
  have co := cell_of_one hob
  have fo := free_of_one hob
  have hbo := lt_of_block hob
  go_enter Ybad.func12, Ybad.ntmps12
  go_wp2_with (at_builtin; refine wpList_append_own _ rfl _ _ 25 rfl B 31 i0 _ 3 32 Ybad.underlying25 hi hz0 hz1 hz2 rfl (by decide) _ _ _ rfl (hown.alloc _) ⟨w.heap.size, 0, none⟩ 1 1 (ncells (0, 0, nils)) rfl rfl ?c1 ?c2 ?c3 ?c4 ?c5 ?_)
  case c1 => exact news3 w (0, 0, nils)
  case c2 => exact ncells_one _
  case c3 => unfold maxLen; omega
  case c4 => omega
  case c5 => have := hst.lt; simp; omega
  intro v' w1 hown' hg _
  obtain ⟨g, c', rfl⟩ := own_shape hown'
  have hob' : (w.alloc (.cells #[.int .u8 0, .int .i64 0, .string ⟨#[]⟩] 31)).heap[bo]? = some (.cells #[.slice a len cap] 25 (0, 0)) := by rw [Below.heap_alloc _ _ _ hbo]; exact hob
  obtain ⟨s1, s2, s3⟩ := (hst.alloc (.cells #[.int .u8 0, .int .i64 0, .string ⟨#[]⟩] 31)).emit (x := (0, 0, nils)) hob' hg hown'
  obtain ⟨co1, fo1⟩ := (hst.alloc (.cells #[.int .u8 0, .int .i64 0, .string ⟨#[]⟩] 31)).outAt hob' hg
  have hsz : w.heap.size ≤ w1.heap.size := Nat.le_trans (by simp) hg.size
  have hBw := hst.lt
  clear hown' hg hown hob hob' co fo ci hi hz0 hz1 hz2 hst
  go_wp2_with fail
  go_ret
  exact ⟨_, rfl, leaf_num _ _ 0 _ _ _ 0 (by rw [size_setCell]) hsz, s1.alloc _, (((Below.refl B w).alloc hBw _).trans s2).alloc s1.lt _, (((Kept.refl w).alloc _).trans s3).alloc _⟩

/-- The tokens, as they lie in memory that was there before the law began. -/
def TokAt (w : World) (B : Nat) (ta : Option Addr) (n : Nat) (T : Toks) : Prop :=
  ∀ j, j < n → ∃ tb to, ta = some ⟨tb, to, none⟩ ∧ tb < B ∧ w.cell? ⟨tb, to + j * 3, none⟩ = some (.int .u8 (T.kind j)) ∧ w.cell? ⟨tb, to + j * 3 + 1, none⟩ = some (.int .i64 (T.val j)) ∧
    w.cell? ⟨tb, to + j * 3 + 2, none⟩ = some (.string (T.str j)) ∧ 0 ≤ T.kind j ∧ T.kind j ≤ 255
theorem TokAt.below {w w' : World} {B : Nat} {ta : Option Addr} {n : Nat} {T : Toks} (h : TokAt w B ta n T) (hb : Below B w w') : TokAt w' B ta n T := fun j hj => by
  obtain ⟨tb, to, h1, h2, h3, h4, h5, h6⟩ := h j hj
  exact ⟨tb, to, h1, h2, (hb.cell (p := ⟨tb, to + j * 3, none⟩) h2).trans h3, (hb.cell (p := ⟨tb, to + j * 3 + 1, none⟩) h2).trans h4, (hb.cell (p := ⟨tb, to + j * 3 + 2, none⟩) h2).trans h5, h6⟩

set_option maxHeartbeats 1000000 in
set_option maxRecDepth 100000 in
/-- A number token. -/
theorem build_num (tb to n tc i : Nat) (K V : Int) (S : ByteArray) (row : Int) (B bi bo : Nat) (e : List Norm) (w : World) (hn : n ≤ 300) (hst : St w B bi bo i e) (he : e.length ≤ 100000) (hi : i < n)
    (c0 : w.cell? ⟨tb, to + i * 3, none⟩ = some (.int .u8 K)) (c1 : w.cell? ⟨tb, to + i * 3 + 1, none⟩ = some (.int .i64 V)) (c2 : w.cell? ⟨tb, to + i * 3 + 2, none⟩ = some (.string S)) (k0 : 0 ≤ K) (k1 : K ≤ 255)
    (hk : K % 4 = 0) :
    Calls Ybad.prog 12 #[.slice (some ⟨tb, to, none⟩) n tc, .pointer (some ⟨bi, 0, none⟩), .int .i64 row, .pointer (some ⟨bo, 0, none⟩)] w fun r w' =>
      BuildPost w B bi bo 1 (i + 1) e [(0, V, nils)] r w' := by
  obtain ⟨i0, hi0, hz0, hz1, hz2⟩ := info_parts info31
  obtain ⟨a, len, cap, hob, hown⟩ := hst.ob
  have ci := cell_of_one hst.ib
  have fi := free_of_one hst.ib
  have hbo := lt_of_block hob
  have hbi := lt_of_block hst.ib
  go_enter Ybad.func12, Ybad.ntmps12
  go_wp2_with fail
  obtain ⟨W, hW, st, hsz, hb35, hb42, hbel, hkep⟩ := enter_world hst K V row S
  rw [hW]
  clear hW c0 c1 c2 ci fi hob hown hbo hbi hst
  obtain ⟨a, len, cap, hob, hown⟩ := st.ob
  have co := cell_of_one hob
  have fo := free_of_one hob
  have cv : W.cell? ⟨w.heap.size, 1, none⟩ = some (.int .i64 V) := by simp [World.cell?, hb35]
  have hbo := lt_of_block hob
  have hBW := st.lt
  have hwz : w.heap.size < W.heap.size := by omega
  have hob' : (W.alloc (.cells #[.int .u8 0, .int .i64 V, .string ⟨#[]⟩] 31)).drew.heap[bo]? = some (.cells #[.slice a len cap] 25 (0, 0)) := (Below.heap_alloc _ _ _ hbo).trans hob
  have h35' : (W.alloc (.cells #[.int .u8 0, .int .i64 V, .string ⟨#[]⟩] 31)).drew.heap[w.heap.size]? = some (.cells #[.int .u8 K, .int .i64 V, .string S] 35 (0, 0)) := (Below.heap_alloc _ _ _ hwz).trans hb35
  go_region_law ((refine step_append_lies _ (by rfl) _ _ _ (by rfl) B 31 i0 _ 3 32 Ybad.underlying25 hi0 hz0 hz1 hz2 rfl (by omega) (.slice a len cap) e.length (encCells e) (by rfl) ((hown.alloc _).drew) ⟨W.heap.size, 0, none⟩ 1 1 (ncells (0, V, nils)) (by rfl) (by rfl) (news3 W (0, V, nils)) (ncells_one _) (by omega) (by unfold maxLen; omega) (by omega) (by simp; omega) (W.heap.size + 1) (by simp) ?_; intro gg cap' w1 hown1 hgrow hat hlt; obtain ⟨co1, fo1⟩ := (st.alloc (.cells #[.int .u8 0, .int .i64 V, .string ⟨#[]⟩] 31)).drew.outAt hob' hgrow))
  all_goals
    obtain ⟨W2, hW2, st2, bel2, kep2⟩ := st.emitted (0, V, nils) hob (undrew hgrow) hown1
    rw [hW2]
    have hk35 := kep2.node _ _ _ rfl hb35
    have hk42 := kep2.node _ _ _ rfl hb42
    have hsz2 := kep2.size
    clear hW2 hob' h35' hgrow hown1 co1 fo1 hat hlt co fo cv hown hob hb35 hb42 hi0 hz0 hz1 hz2
    have cv : W2.cell? ⟨w.heap.size, 1, none⟩ = some (.int .i64 V) := by simp [World.cell?, hk35]
    have cr : W2.cell? ⟨w.heap.size + 1, 0, none⟩ = some (.int .i64 row) := by simp [World.cell?, hk42]
    have cc : W2.cell? ⟨w.heap.size + 1, 1, none⟩ = some (.int .i64 i) := by simp [World.cell?, hk42]
    go_wp2_with fail
    go_ret
    exact ⟨_, rfl, leaf_num _ _ 0 _ _ _ V rfl (by omega), st2.alloc _, ((hbel.trans bel2).alloc st2.lt _), ((hkep.trans kep2).alloc _)⟩
set_option maxHeartbeats 1000000 in
set_option maxRecDepth 100000 in
/-- A name token. -/
theorem build_name (tb to n tc i : Nat) (K V : Int) (S : ByteArray) (row : Int) (B bi bo : Nat) (e : List Norm) (w : World) (hn : n ≤ 300) (hst : St w B bi bo i e) (he : e.length ≤ 100000) (hi : i < n)
    (c0 : w.cell? ⟨tb, to + i * 3, none⟩ = some (.int .u8 K)) (c1 : w.cell? ⟨tb, to + i * 3 + 1, none⟩ = some (.int .i64 V)) (c2 : w.cell? ⟨tb, to + i * 3 + 2, none⟩ = some (.string S)) (k0 : 0 ≤ K) (k1 : K ≤ 255)
    (hk : K % 4 = 1) :
    Calls Ybad.prog 12 #[.slice (some ⟨tb, to, none⟩) n tc, .pointer (some ⟨bi, 0, none⟩), .int .i64 row, .pointer (some ⟨bo, 0, none⟩)] w fun r w' =>
      BuildPost w B bi bo 1 (i + 1) e [(1, 0, S)] r w' := by
  obtain ⟨i0, hi0, hz0, hz1, hz2⟩ := info_parts info31
  obtain ⟨a, len, cap, hob, hown⟩ := hst.ob
  have ci := cell_of_one hst.ib
  have fi := free_of_one hst.ib
  have hbo := lt_of_block hob
  have hbi := lt_of_block hst.ib
  go_enter Ybad.func12, Ybad.ntmps12
  go_wp2_with fail
  obtain ⟨W, hW, st, hsz, hb35, hb42, hbel, hkep⟩ := enter_world hst K V row S
  rw [hW]
  clear hW c0 c1 c2 ci fi hob hown hbo hbi hst
  obtain ⟨a, len, cap, hob, hown⟩ := st.ob
  have co := cell_of_one hob
  have fo := free_of_one hob
  have cv : W.cell? ⟨w.heap.size, 2, none⟩ = some (.string S) := by simp [World.cell?, hb35]
  have hbo := lt_of_block hob
  have hBW := st.lt
  have hwz : w.heap.size < W.heap.size := by omega
  have hob' : (W.alloc (.cells #[.int .u8 1, .int .i64 0, .string S] 31)).drew.heap[bo]? = some (.cells #[.slice a len cap] 25 (0, 0)) := (Below.heap_alloc _ _ _ hbo).trans hob
  have h35' : (W.alloc (.cells #[.int .u8 1, .int .i64 0, .string S] 31)).drew.heap[w.heap.size]? = some (.cells #[.int .u8 K, .int .i64 V, .string S] 35 (0, 0)) := (Below.heap_alloc _ _ _ hwz).trans hb35
  go_region_law ((refine step_append_lies _ (by rfl) _ _ _ (by rfl) B 31 i0 _ 3 32 Ybad.underlying25 hi0 hz0 hz1 hz2 rfl (by omega) (.slice a len cap) e.length (encCells e) (by rfl) ((hown.alloc _).drew) ⟨W.heap.size, 0, none⟩ 1 1 (ncells (1, 0, S)) (by rfl) (by rfl) (news3 W (1, 0, S)) (ncells_one _) (by omega) (by unfold maxLen; omega) (by omega) (by simp; omega) (W.heap.size + 1) (by simp) ?_; intro gg cap' w1 hown1 hgrow hat hlt; obtain ⟨co1, fo1⟩ := (st.alloc (.cells #[.int .u8 1, .int .i64 0, .string S] 31)).drew.outAt hob' hgrow))
  all_goals
    obtain ⟨W2, hW2, st2, bel2, kep2⟩ := st.emitted (1, 0, S) hob (undrew hgrow) hown1
    rw [hW2]
    have hk35 := kep2.node _ _ _ rfl hb35
    have hk42 := kep2.node _ _ _ rfl hb42
    have hsz2 := kep2.size
    clear hW2 hob' h35' hgrow hown1 co1 fo1 hat hlt co fo cv hown hob hb35 hb42 hi0 hz0 hz1 hz2
    have cv : W2.cell? ⟨w.heap.size, 2, none⟩ = some (.string S) := by simp [World.cell?, hk35]
    have cr : W2.cell? ⟨w.heap.size + 1, 0, none⟩ = some (.int .i64 row) := by simp [World.cell?, hk42]
    have cc : W2.cell? ⟨w.heap.size + 1, 1, none⟩ = some (.int .i64 i) := by simp [World.cell?, hk42]
    go_wp2_with fail
    go_ret
    exact ⟨_, rfl, leaf_name _ _ 0 _ _ _ S rfl (by omega), st2.alloc _, ((hbel.trans bel2).alloc st2.lt _), ((hkep.trans kep2).alloc _)⟩
end Go.Proofs.YbulkbuxwDoor
