/-
  The walk of LawS3571BModel.
-/
import Derived.Test.YbulkbuxwDoorBTree
import Derived.Test.YbulkbuxwDoorBSameAll
import Derived.Test.YbulkbuxwDoorBEqual
namespace Go.Proofs.YbulkbuxwDoor
open Go.RowKit

theorem Tree.below {w w' : World} {lo f : Nat} {v : Value} {e : List Norm} (h : Tree w lo f v e) (b : Below w.heap.size w w') : Tree w' lo f v e :=
  Tree.transport (Nat.le_refl _) (fun k _ _ _ _ hk => (b.block k (lt_of_block hk)).trans hk) f v e h
theorem own_below {w w' : World} {B : Nat} {t : TypeId} {size : Nat} {v : Value} {n : Nat} {xs : List Value} (h : w.ownsRow B t size v n xs) (b : Below w.heap.size w w') : w'.ownsRow B t size v n xs := by
  refine ⟨h.1, ?_⟩
  rcases h.2 with h0 | ⟨g, cap, cur, hv, hb, hg, r⟩
  · exact .inl h0
  · exact .inr ⟨g, cap, cur, hv, hb, (b.block g (lt_of_block hg)).trans hg, r⟩
theorem TokAt.up {w w' : World} {B B' : Nat} {ta : Option Addr} {n : Nat} {T : Toks} (h : TokAt w B ta n T) (hb : Below B w w') (hB : B ≤ B') : TokAt w' B' ta n T := fun j hj => by
  obtain ⟨tb, to, h1, h2, h3⟩ := (h.below hb) j hj
  exact ⟨tb, to, h1, Nat.lt_of_lt_of_le h2 hB, h3⟩

set_option maxHeartbeats 1000000 in
set_option maxRecDepth 100000 in
theorem model_long (a b : Option Addr) (n m c d : Nat) (w : World) (h : 300 < n ∨ 300 < m) :
    Calls Ybad.prog 3 #[.slice a n c, .slice b m d] w fun r w' => r = .returned (.bool true) ∧ Below w.heap.size w w' := by
  by_cases h1 : 300 < n
  · go_enter Ybad.func3, Ybad.ntmps3
    go_wp2_with fail
    go_ret
    exact ⟨rfl, Below.refl _ _⟩
  · have h2 : 300 < m := by omega
    have h3 : decide ((300 : Int) < (n : Int)) = false := by simp; omega
    clear h
    go_enter Ybad.func3, Ybad.ntmps3
    go_wp2_with fail
    go_ret
    exact ⟨rfl, Below.refl _ _⟩

set_option maxHeartbeats 1000000 in
set_option maxRecDepth 100000 in
theorem model_walk (a b : Option Addr) (n m c d : Nat) (T T' : Toks) (w : World) (hn : n ≤ 300) (hm : m ≤ 300) (ht : TokAt w w.heap.size a n T) (ht' : TokAt w w.heap.size b m T') :
    Calls Ybad.prog 3 #[.slice a n c, .slice b m d] w fun r w' => r = .returned (.bool true) ∧ Below w.heap.size w w' := by
  obtain ⟨F, hF⟩ : ∃ F, 300 ≤ F := ⟨300, Nat.le_refl _⟩
  have bd := (encF_bd T n F 0 (Nat.zero_le _)).2
  have H1 := tree_any a n c 1 T w F hn (by omega) ht
  have H2 := fun w1 (h : TokAt w1 w1.heap.size b m T') => tree_any b m d 2 T' w1 F hm (by omega) h
  have hlen : (encF T n F 0).1.length ≤ 1000000 := by omega
  generalize (encF T n F 0).1 = e at *
  generalize (encF T' m F 0).1 = e' at *
  clear bd
  have h1 : Hid (Calls Ybad.prog 8 #[.slice a n c, .int .i64 1] w fun r w' => TreePost w (F + 1) e r w') := H1
  have h2 : Hid (∀ w1, TokAt w1 w1.heap.size b m T' → Calls Ybad.prog 8 #[.slice b m d, .int .i64 2] w1 fun r w' => TreePost w1 (F + 1) e' r w') := H2
  clear H1 H2
  go_enter Ybad.func3, Ybad.ntmps3
  go_wp2_with fail
  refine h1.out.mono ?_
  rintro r w1 ⟨v, g, cp, rfl, tr, own, bel, sz⟩
  obtain ⟨u, p, rfl⟩ := tr.shape
  go_wp2_with fail
  refine (h2.out w1 (ht'.up bel sz)).mono ?_
  rintro r w2 ⟨v', g', cp', rfl, tr', own', bel', sz'⟩
  obtain ⟨u', p', rfl⟩ := tr'.shape
  have tr2 := tr.below bel'
  have own2 := own_below own bel'
  have BEL := bel.trans (bel'.mono sz)
  clear h1 h2 tr own bel bel' sz sz' ht ht'
  go_wp2_with fail
  refine (same_all _ _ _ _ _ _ _ _ w2 tr2 tr').mono ?_
  rintro r w3 ⟨rfl, k, rfl⟩
  go_wp2_with fail
  refine (equal_enc _ _ g g' cp cp' e e' (w2.drewN k) hlen own2 own').mono ?_
  rintro r w3 ⟨rfl, k', rfl⟩
  go_wp2_with fail
  go_ret
  exact ⟨by simp, below_drewN BEL _⟩
end Go.Proofs.YbulkbuxwDoor
