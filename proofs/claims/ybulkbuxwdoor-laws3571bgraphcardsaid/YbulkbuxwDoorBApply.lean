/-
  zzs3571bbuild at an apply token: two calls of itself, each by the induction's statement.
-/
import Derived.Test.YbulkbuxwDoorBBuild
namespace Go.Proofs.YbulkbuxwDoor
open Go.RowKit

/-- THE INDUCTION's STATEMENT: from token i on, at most f tokens left. -/
def BuildSaid (ta : Option Addr) (n tc : Nat) (row : Int) (B bi bo : Nat) (T : Toks) (f : Nat) : Prop :=
  ∀ (i : Nat) (e : List Norm) (w : World), i ≤ n → n ≤ i + f → St w B bi bo i e → e.length + 3 * (n - i) + 1 ≤ 100000 → TokAt w B ta n T →
    Calls Ybad.prog 12 #[.slice ta n tc, .pointer (some ⟨bi, 0, none⟩), .int .i64 row, .pointer (some ⟨bo, 0, none⟩)] w fun r w' => BuildPost w B bi bo (f + 1) (encF T n f i).2 e (encF T n f i).1 r w'

set_option maxHeartbeats 2000000 in
set_option maxRecDepth 100000 in
/-- An apply token. -/
theorem build_apply (tb to n tc i : Nat) (T : Toks) (f : Nat) (K V : Int) (S : ByteArray) (row : Int) (B bi bo : Nat) (e : List Norm) (w : World) (hn : n ≤ 300) (hst : St w B bi bo i e) (he : e.length + 3 * (n - i) + 1 ≤ 100000) (hi : i < n) (hf : n ≤ i + (f + 1))
    (ih : BuildSaid (some ⟨tb, to, none⟩) n tc row B bi bo T f) (htok : TokAt w B (some ⟨tb, to, none⟩) n T)
    (c0 : w.cell? ⟨tb, to + i * 3, none⟩ = some (.int .u8 K)) (c1 : w.cell? ⟨tb, to + i * 3 + 1, none⟩ = some (.int .i64 V)) (c2 : w.cell? ⟨tb, to + i * 3 + 2, none⟩ = some (.string S)) (k0 : 0 ≤ K) (k1 : K ≤ 255)
    (hk : K % 4 = 2) :
    Calls Ybad.prog 12 #[.slice (some ⟨tb, to, none⟩) n tc, .pointer (some ⟨bi, 0, none⟩), .int .i64 row, .pointer (some ⟨bo, 0, none⟩)] w fun r w' =>
      BuildPost w B bi bo (f + 2) (encMany (encF T n f) 2 (i + 1)).2 e ((2, 0, nils) :: (encMany (encF T n f) 2 (i + 1)).1) r w' := by
  obtain ⟨b1, b2, b3⟩ := encF_bd T n f (i + 1) (by omega)
  have HE : Hid ((encMany (encF T n f) 2 (i + 1)).1 = (encF T n f (i + 1)).1 ++ (encF T n f (encF T n f (i + 1)).2).1 ∧ (encMany (encF T n f) 2 (i + 1)).2 = (encF T n f (encF T n f (i + 1)).2).2) := ⟨by simp [encMany], by simp [encMany]⟩
  obtain ⟨i0, hi0, hz0, hz1, hz2⟩ := info_parts info31
  have ci := cell_of_one hst.ib
  have fi := free_of_one hst.ib
  have hbi := lt_of_block hst.ib
  have hBw := hst.lt
  obtain ⟨W, hW, st, hsz, -, -, hbel, hkep⟩ := enter_world hst K V row S
  subst hW
  obtain ⟨a, len, cap, hob, hown⟩ := st.ob
  have co := cell_of_one hob
  have hbo := lt_of_block hob
  go_enter Ybad.func12, Ybad.ntmps12
  go_wp2_with (at_builtin; refine wpList_append_lies _ rfl _ _ 25 rfl B 31 i0 _ 3 32 Ybad.underlying25 hi0 hz0 hz1 hz2 rfl (by decide) _ _ _ rfl (hown.alloc _) ⟨w.heap.size + 2, 0, none⟩ 1 1 (ncells (2, 0, nils)) rfl rfl ?c1 (ncells_one _) (by decide) ?c3 ?c4 ?c5 _ rfl ?_)
  case c1 => exact news3' _ (2, 0, nils) _ (by simp)
  case c3 => unfold maxLen; omega
  case c4 => omega
  case c5 => simp; omega
  intro gg cap' w1 hown1 hgrow hat hlt
  obtain ⟨co1, fo1⟩ := (st.alloc (.cells #[.int .u8 2, .int .i64 0, .string ⟨#[]⟩] 31)).outAt ((Below.heap_alloc _ _ _ hbo).trans hob) hgrow
  obtain ⟨W2, hW2, st2, bel2, kep2⟩ := st.emitted (2, 0, nils) hob hgrow hown1
  have BEL := hbel.trans bel2
  have KEP := hkep.trans kep2
  clear hgrow hown1 hat hlt co ci fi c0 c1 c2 hown hob hi0 hz0 hz1 hz2 hst st hbel hkep bel2 kep2 hbo
  go_wp2_with fail
  clear hW2 co1 fo1 w1
  refine (ih (i + 1) (e ++ [(2, 0, nils)]) W2 (by omega) (by omega) st2 (by simp only [List.length_append, List.length_cons, List.length_nil]; omega) (htok.below BEL)).mono ?_
  rintro r w3 ⟨v1, rfl, tr1, st3, bel3, kep3⟩
  obtain ⟨u1, p1, rfl⟩ := tr1.shape
  go_wp2_with fail
  refine (ih (encF T n f (i + 1)).2 _ w3 b2 (by omega) st3 (by simp only [List.length_append, List.length_cons, List.length_nil]; omega) (htok.below (BEL.trans bel3))).mono ?_
  rintro r w4 ⟨v2, rfl, tr2, st4, bel4, kep4⟩
  obtain ⟨u2, p2, rfl⟩ := tr2.shape
  have z1 := KEP.size
  have z2 := kep3.size
  have z3 := kep4.size
  go_wp2_with fail
  go_ret
  refine ⟨_, rfl, ?_, ?_, ((BEL.trans bel3).trans bel4).alloc st4.lt _, ((KEP.trans kep3).trans kep4).alloc _⟩
  · rw [HE.out.1]
    exact node_apply _ _ _ _ _ _ _ _ rfl (by omega) ((tr1.kept kep4).low (by omega)) (tr2.low (by omega))
  · rw [HE.out.1, HE.out.2]
    have := st4.alloc (.cells #[.iface u1 (.pointer (some ⟨p1, 0, none⟩)), .iface u2 (.pointer (some ⟨p2, 0, none⟩))] 57)
    simpa only [List.append_assoc, List.cons_append, List.nil_append] using this
end Go.Proofs.YbulkbuxwDoor
