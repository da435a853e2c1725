/-
  The walks of LawS3571BMutant: by the mode and by whether there is a token at all.
-/
import Derived.Test.YbulkbuxwDoorBMutHeap
import Derived.Test.YbulkbuxwDoorBCopy
import Derived.Laws.Concat
namespace Go.Proofs.YbulkbuxwDoor
open Go.RowKit
set_option linter.unusedVariables false

theorem info35 : (Ybad.prog.info? 35).map (fun i => (i.zero, i.size, i.bytes)) = some (some (.agg #[.int .u8 0, .int .i64 0, .string ⟨#[]⟩]), 3, 32) := by kernel_rfl
theorem size35 : (Ybad.prog.info? 35).map (·.size) = some 3 := by kernel_rfl
theorem eqE_self (e : List Norm) : eqE e e = true := by simp [eqE]
theorem TokAt.kinds {w : World} {B : Nat} {ta : Option Addr} {n : Nat} {T : Toks} (h : TokAt w B ta n T) : ∀ j, j < n → 0 ≤ T.kind j ∧ T.kind j ≤ 255 := fun j hj => by
  obtain ⟨_, _, _, _, _, _, _, b⟩ := h j hj
  exact b

/-- What 'copy(ys, xs)' leaves. -/
theorem copy_world {w : World} {a : Option Addr} {n : Nat} {T : Toks} (c : Nat) (z : Array Value) (ht : TokAt w w.heap.size a n T) :
    ∃ W, (Builtin.copy_ #[22, 22] 3 #[.slice (some ⟨w.heap.size, 0, none⟩) n n, .slice a n c]).run Ybad.prog (w.alloc (.cells (madeCells z (n * 3)) 35)) = .ok (goInt n) W ∧
      W.heap[w.heap.size]? = some (.cells (tcells T n).toArray 35 (0, 0)) ∧ Below w.heap.size w W ∧ w.heap.size < W.heap.size := by
  have bel0 : Below w.heap.size w (w.alloc (.cells (madeCells z (n * 3)) 35)) := (Below.refl _ w).alloc (Nat.le_refl _) _
  have hg := heap_alloc_new w (.cells (madeCells z (n * 3)) 35)
  by_cases h0 : n = 0
  · subst h0
    have hrun := run_copy_zero (P := Ybad.prog) (w.alloc (.cells (madeCells z (0 * 3)) 35)) 22 22 3 35 ⟨w.heap.size, 0, none⟩ a 0 c Ybad.underlying22 (by rw [size35]; rfl)
    refine ⟨_, hrun, ?_, bel0, by simp⟩
    rw [hg]
    simp [tcells, madeCells]
  · obtain ⟨ad, rfl, hc⟩ := tcells_src (ht.below bel0) (by omega)
    have hrun := run_copy_full (P := Ybad.prog) (w.alloc (.cells (madeCells z (n * 3)) 35)) 22 22 3 35 w.heap.size n n ad c 3 _ 35 (tcells T n) Ybad.underlying22 size35 hg (tcells_len T n) (size_madeCells _ _) hc (tcells_one T n)
    exact ⟨_, hrun, setRow_heap _ _ _ _ _ _ hg, below_setRow bel0 (Nat.le_refl _) _, by simp [World.setRow]⟩

/-- What the change of one token leaves. -/
theorem mut_world {w w1 : World} {a : Option Addr} {n k : Nat} {T : Toks} (K V : Int) (S : ByteArray) (ht : TokAt w w.heap.size a n T) (ty : TokAt w1 w1.heap.size (some ⟨w.heap.size, 0, none⟩) n T) (bel : Below w.heap.size w w1) (hk : k < n) (k0 : 0 ≤ K) (k1 : K ≤ 255) :
    ∃ W, (((w1.setCell ⟨w.heap.size, k * 3, none⟩ (.int .u8 K)).setCell ⟨w.heap.size, k * 3 + 1, none⟩ (.int .i64 V)).setCell ⟨w.heap.size, k * 3 + 2, none⟩ (.string S)).alloc (.cells #[.int .u8 K, .int .i64 V, .string S] 35) = W ∧
      TokAt W W.heap.size a n T ∧ TokAt W W.heap.size (some ⟨w.heap.size, 0, none⟩) n (T.put k K V S) ∧ Below w.heap.size w W ∧ w.heap.size < W.heap.size := by
  have hlt : w.heap.size < w1.heap.size := by
    obtain ⟨tb, to, e, h2, _⟩ := ty k hk
    injection e with e
    injection e with e1 e2
    omega
  have ty2 := tok_put (K := K) (V := V) (S := S) ty hk k0 k1
  have bel2 : Below w.heap.size w (((w1.setCell ⟨w.heap.size, k * 3, none⟩ (.int .u8 K)).setCell ⟨w.heap.size, k * 3 + 1, none⟩ (.int .i64 V)).setCell ⟨w.heap.size, k * 3 + 2, none⟩ (.string S)) :=
    ((bel.setCell (Nat.le_refl _) _).setCell (Nat.le_refl _) _).setCell (Nat.le_refl _) _
  have sz : (((w1.setCell ⟨w.heap.size, k * 3, none⟩ (.int .u8 K)).setCell ⟨w.heap.size, k * 3 + 1, none⟩ (.int .i64 V)).setCell ⟨w.heap.size, k * 3 + 2, none⟩ (.string S)).heap.size = w1.heap.size := by
    rw [size_setCell, size_setCell, size_setCell]
  generalize ((w1.setCell ⟨w.heap.size, k * 3, none⟩ (.int .u8 K)).setCell ⟨w.heap.size, k * 3 + 1, none⟩ (.int .i64 V)).setCell ⟨w.heap.size, k * 3 + 2, none⟩ (.string S) = u at *
  have bel3 := bel2.alloc (by omega) (.cells #[.int .u8 K, .int .i64 V, .string S] 35)
  refine ⟨_, rfl, ht.up bel3 (by simp; omega), ?_, bel3, by simp; omega⟩
  exact ty2.up ((Below.refl _ u).alloc (by omega) _) (by simp; omega)

set_option maxRecDepth 100000 in
theorem mutant_long (a : Option Addr) (n c : Nat) (sel kk : Int) (w : World) (h : 300 < n) :
    Calls Ybad.prog 4 #[.slice a n c, .int .u8 sel, .int .u16 kk] w fun r w' => r = .returned (.bool true) ∧ Below w.heap.size w w' := by
  go_enter Ybad.func4, Ybad.ntmps4
  go_wp2_with fail
  go_ret
  exact ⟨rfl, Below.refl _ _⟩

set_option maxHeartbeats 2000000 in
set_option maxRecDepth 100000 in
theorem mutant_same (a : Option Addr) (n c : Nat) (sel kk : Nat) (T : Toks) (w : World) (hn : n ≤ 300) (hsel : sel ≤ 255) (hkk : kk ≤ 65535) (ht : TokAt w w.heap.size a n T) (h0 : 0 < n) (hm : (sel : Int) % 4 = 0) :
    Calls Ybad.prog 4 #[.slice a n c, .int .u8 sel, .int .u16 kk] w fun r w' => r = .returned (.bool true) ∧ Below w.heap.size w w' := by
  obtain ⟨F, hF⟩ : ∃ F, 300 ≤ F := ⟨300, Nat.le_refl _⟩
  obtain ⟨i0, hi, hz0, hz1, hz2⟩ := info_parts info35
  have hmk := fun w => run_make (P := Ybad.prog) w 22 35 i0 _ Ybad.underlying22 hi hz0 .i64 .i64 n n (by omega) (by omega) (by rw [hz2]; omega) (by omega)
  simp only [hz1, Int.toNat_natCast] at hmk
  obtain ⟨w1, hcp, hg1, bel, hsz1⟩ := copy_world c #[.int .u8 0, .int .i64 0, .string ⟨#[]⟩] ht
  have tx : TokAt w1 w1.heap.size a n T := ht.up bel (Nat.le_of_lt hsz1)
  have ty : TokAt w1 w1.heap.size (some ⟨w.heap.size, 0, none⟩) n T := tok_row hg1 hsz1 ht.kinds
  have H1 := tree_any a n c 1 T w1 F hn (by omega) tx
  have H2 := fun w1 (h : TokAt w1 w1.heap.size (some ⟨w.heap.size, 0, none⟩) n T) => tree_any (some ⟨w.heap.size, 0, none⟩) n n 5 T w1 F hn (by omega) h
  have bd := (encF_bd T n F 0 (Nat.zero_le _)).2
  have hlen : (encF T n F 0).1.length ≤ 1000000 := by omega
  clear bd
  generalize (encF T n F 0).1 = e at *
  have h1 : Hid (Calls Ybad.prog 8 #[.slice a n c, .int .i64 1] w1 fun r w' => TreePost w1 (F + 1) e r w') := H1
  have h2 : Hid (∀ w1, TokAt w1 w1.heap.size (some ⟨w.heap.size, 0, none⟩) n T → Calls Ybad.prog 8 #[.slice (some ⟨w.heap.size, 0, none⟩) n n, .int .i64 5] w1 fun r w' => TreePost w1 (F + 1) e r w') := H2
  clear H1 H2 ht hi hz0 hz1 hz2
  go_enter Ybad.func4, Ybad.ntmps4
  go_wp2_with fail
  clear hmk hcp
  refine h1.out.mono ?_
  rintro r w2 ⟨v, g, cp, rfl, tr, own, belA, szA⟩
  obtain ⟨u, p, rfl⟩ := tr.shape
  go_wp2_with fail
  refine (h2.out w2 (ty.up belA szA)).mono ?_
  rintro r w3 ⟨v', g', cp', rfl, tr', own', belB, szB⟩
  obtain ⟨u', p', rfl⟩ := tr'.shape
  have tr2 := tr.below belB
  have own2 := own_below own belB
  have BEL := (bel.trans (belA.mono (by omega))).trans (belB.mono (by omega))
  clear h1 h2 tr own belA belB szA szB tx ty bel hg1
  have S1 := same_all _ _ _ _ _ _ _ _ w3 tr2 tr'
  have S2 := fun k => same_all _ _ _ _ _ _ _ _ (w3.drewN k) (tr'.kept ((Kept.refl w3).drewN k)) (tr2.kept ((Kept.refl w3).drewN k))
  rw [eqE_comm] at S1
  have E1 := fun k => equal_enc _ _ g g' cp cp' e e (w3.drewN k) hlen own2 own'
  simp only [eqE_self] at S1 S2 E1
  have s1 : Hid (SameIn w3 (.iface u (.pointer (some ⟨p, 0, none⟩))) (.iface u' (.pointer (some ⟨p', 0, none⟩))) true) := S1
  have s2 : Hid (∀ k, SameIn (w3.drewN k) (.iface u' (.pointer (some ⟨p', 0, none⟩))) (.iface u (.pointer (some ⟨p, 0, none⟩))) true) := S2
  have e1 : Hid (∀ k, Calls Ybad.prog 10 #[.slice (some ⟨g, 0, none⟩) e.length cp, .slice (some ⟨g', 0, none⟩) e.length cp'] (w3.drewN k) fun r w' => r = .returned (.bool true) ∧ ∃ m, w' = (w3.drewN k).drewN m) := E1
  clear S1 S2 E1 tr2 tr' own2 own'
  go_wp2_with fail
  refine s1.out.mono ?_
  rintro r w4 ⟨rfl, k1, rfl⟩
  go_wp2_with fail
  refine (s2.out k1).mono ?_
  rintro r w4 ⟨rfl, k2, rfl⟩
  go_wp2_with fail
  refine (e1.out (k1 + k2)).mono ?_
  rintro r w4 ⟨rfl, k3, rfl⟩
  go_wp2_with fail
  go_ret
  exact ⟨by simp, below_drewN BEL _⟩


set_option maxHeartbeats 2000000 in
set_option maxRecDepth 100000 in
theorem mutant_noneY (a : Option Addr) (n c : Nat) (sel kk : Nat) (T : Toks) (w : World) (hn : n ≤ 300) (hsel : sel ≤ 255) (hkk : kk ≤ 65535) (ht : TokAt w w.heap.size a n T) (h0 : n ≤ 0) (hm : ((sel : Int) % 4 == 0) = true) :
    Calls Ybad.prog 4 #[.slice a n c, .int .u8 sel, .int .u16 kk] w fun r w' => r = .returned (.bool true) ∧ Below w.heap.size w w' := by
  obtain ⟨F, hF⟩ : ∃ F, 300 ≤ F := ⟨300, Nat.le_refl _⟩
  obtain ⟨i0, hi, hz0, hz1, hz2⟩ := info_parts info35
  have hmk := fun w => run_make (P := Ybad.prog) w 22 35 i0 _ Ybad.underlying22 hi hz0 .i64 .i64 n n (by omega) (by omega) (by rw [hz2]; omega) (by omega)
  simp only [hz1, Int.toNat_natCast] at hmk
  obtain ⟨w1, hcp, hg1, bel, hsz1⟩ := copy_world c #[.int .u8 0, .int .i64 0, .string ⟨#[]⟩] ht
  have tx : TokAt w1 w1.heap.size a n T := ht.up bel (Nat.le_of_lt hsz1)
  have ty : TokAt w1 w1.heap.size (some ⟨w.heap.size, 0, none⟩) n T := tok_row hg1 hsz1 ht.kinds
  have hd0 : decide ((0 : Int) < (n : Int)) = false := by simp; omega
  have H1 := tree_any a n c 1 T w1 F hn (by omega) tx
  have H2 := fun w1 (h : TokAt w1 w1.heap.size (some ⟨w.heap.size, 0, none⟩) n T) => tree_any (some ⟨w.heap.size, 0, none⟩) n n 5 T w1 F hn (by omega) h
  have bd := (encF_bd T n F 0 (Nat.zero_le _)).2
  have hlen : (encF T n F 0).1.length ≤ 1000000 := by omega
  clear bd
  generalize (encF T n F 0).1 = e at *
  have h1 : Hid (Calls Ybad.prog 8 #[.slice a n c, .int .i64 1] w1 fun r w' => TreePost w1 (F + 1) e r w') := H1
  have h2 : Hid (∀ w1, TokAt w1 w1.heap.size (some ⟨w.heap.size, 0, none⟩) n T → Calls Ybad.prog 8 #[.slice (some ⟨w.heap.size, 0, none⟩) n n, .int .i64 5] w1 fun r w' => TreePost w1 (F + 1) e r w') := H2
  clear H1 H2 ht hi hz0 hz1 hz2
  go_enter Ybad.func4, Ybad.ntmps4
  go_wp2_with fail
  clear hmk hcp
  refine h1.out.mono ?_
  rintro r w2 ⟨v, g, cp, rfl, tr, own, belA, szA⟩
  obtain ⟨u, p, rfl⟩ := tr.shape
  go_wp2_with fail
  refine (h2.out w2 (ty.up belA szA)).mono ?_
  rintro r w3 ⟨v', g', cp', rfl, tr', own', belB, szB⟩
  obtain ⟨u', p', rfl⟩ := tr'.shape
  have tr2 := tr.below belB
  have own2 := own_below own belB
  have BEL := (bel.trans (belA.mono (by omega))).trans (belB.mono (by omega))
  clear h1 h2 tr own belA belB szA szB tx ty bel hg1
  have S1 := same_all _ _ _ _ _ _ _ _ w3 tr2 tr'
  have S2 := fun k => same_all _ _ _ _ _ _ _ _ (w3.drewN k) (tr'.kept ((Kept.refl w3).drewN k)) (tr2.kept ((Kept.refl w3).drewN k))
  rw [eqE_comm] at S1
  have E1 := fun k => equal_enc _ _ g g' cp cp' e e (w3.drewN k) hlen own2 own'
  simp only [eqE_self] at S1 S2 E1
  have s1 : Hid (SameIn w3 (.iface u (.pointer (some ⟨p, 0, none⟩))) (.iface u' (.pointer (some ⟨p', 0, none⟩))) true) := S1
  have s2 : Hid (∀ k, SameIn (w3.drewN k) (.iface u' (.pointer (some ⟨p', 0, none⟩))) (.iface u (.pointer (some ⟨p, 0, none⟩))) true) := S2
  have e1 : Hid (∀ k, Calls Ybad.prog 10 #[.slice (some ⟨g, 0, none⟩) e.length cp, .slice (some ⟨g', 0, none⟩) e.length cp'] (w3.drewN k) fun r w' => r = .returned (.bool true) ∧ ∃ m, w' = (w3.drewN k).drewN m) := E1
  clear S1 S2 E1 tr2 tr' own2 own'
  go_wp2_with fail
  refine s1.out.mono ?_
  rintro r w4 ⟨rfl, k1, rfl⟩
  go_wp2_with fail
  refine (s2.out k1).mono ?_
  rintro r w4 ⟨rfl, k2, rfl⟩
  go_wp2_with fail
  refine (e1.out (k1 + k2)).mono ?_
  rintro r w4 ⟨rfl, k3, rfl⟩
  go_wp2_with fail
  go_ret
  exact ⟨by simp, below_drewN BEL _⟩


set_option maxHeartbeats 2000000 in
set_option maxRecDepth 100000 in
theorem mutant_noneN (a : Option Addr) (n c : Nat) (sel kk : Nat) (T : Toks) (w : World) (hn : n ≤ 300) (hsel : sel ≤ 255) (hkk : kk ≤ 65535) (ht : TokAt w w.heap.size a n T) (h0 : n ≤ 0) (hm : ((sel : Int) % 4 == 0) = false) :
    Calls Ybad.prog 4 #[.slice a n c, .int .u8 sel, .int .u16 kk] w fun r w' => r = .returned (.bool true) ∧ Below w.heap.size w w' := by
  obtain ⟨F, hF⟩ : ∃ F, 300 ≤ F := ⟨300, Nat.le_refl _⟩
  obtain ⟨i0, hi, hz0, hz1, hz2⟩ := info_parts info35
  have hmk := fun w => run_make (P := Ybad.prog) w 22 35 i0 _ Ybad.underlying22 hi hz0 .i64 .i64 n n (by omega) (by omega) (by rw [hz2]; omega) (by omega)
  simp only [hz1, Int.toNat_natCast] at hmk
  obtain ⟨w1, hcp, hg1, bel, hsz1⟩ := copy_world c #[.int .u8 0, .int .i64 0, .string ⟨#[]⟩] ht
  have tx : TokAt w1 w1.heap.size a n T := ht.up bel (Nat.le_of_lt hsz1)
  have ty : TokAt w1 w1.heap.size (some ⟨w.heap.size, 0, none⟩) n T := tok_row hg1 hsz1 ht.kinds
  have hd0 : decide ((0 : Int) < (n : Int)) = false := by simp; omega
  have H1 := tree_any a n c 1 T w1 F hn (by omega) tx
  have H2 := fun w1 (h : TokAt w1 w1.heap.size (some ⟨w.heap.size, 0, none⟩) n T) => tree_any (some ⟨w.heap.size, 0, none⟩) n n 5 T w1 F hn (by omega) h
  have bd := (encF_bd T n F 0 (Nat.zero_le _)).2
  have hlen : (encF T n F 0).1.length ≤ 1000000 := by omega
  clear bd
  generalize (encF T n F 0).1 = e at *
  have h1 : Hid (Calls Ybad.prog 8 #[.slice a n c, .int .i64 1] w1 fun r w' => TreePost w1 (F + 1) e r w') := H1
  have h2 : Hid (∀ w1, TokAt w1 w1.heap.size (some ⟨w.heap.size, 0, none⟩) n T → Calls Ybad.prog 8 #[.slice (some ⟨w.heap.size, 0, none⟩) n n, .int .i64 5] w1 fun r w' => TreePost w1 (F + 1) e r w') := H2
  clear H1 H2 ht hi hz0 hz1 hz2
  go_enter Ybad.func4, Ybad.ntmps4
  go_wp2_with fail
  clear hmk hcp
  refine h1.out.mono ?_
  rintro r w2 ⟨v, g, cp, rfl, tr, own, belA, szA⟩
  obtain ⟨u, p, rfl⟩ := tr.shape
  go_wp2_with fail
  refine (h2.out w2 (ty.up belA szA)).mono ?_
  rintro r w3 ⟨v', g', cp', rfl, tr', own', belB, szB⟩
  obtain ⟨u', p', rfl⟩ := tr'.shape
  have tr2 := tr.below belB
  have own2 := own_below own belB
  have BEL := (bel.trans (belA.mono (by omega))).trans (belB.mono (by omega))
  clear h1 h2 tr own belA belB szA szB tx ty bel hg1
  have S1 := same_all _ _ _ _ _ _ _ _ w3 tr2 tr'
  have S2 := fun k => same_all _ _ _ _ _ _ _ _ (w3.drewN k) (tr'.kept ((Kept.refl w3).drewN k)) (tr2.kept ((Kept.refl w3).drewN k))
  rw [eqE_comm] at S1
  have E1 := fun k => equal_enc _ _ g g' cp cp' e e (w3.drewN k) hlen own2 own'
  simp only [eqE_self] at S1 S2 E1
  have s1 : Hid (SameIn w3 (.iface u (.pointer (some ⟨p, 0, none⟩))) (.iface u' (.pointer (some ⟨p', 0, none⟩))) true) := S1
  have s2 : Hid (∀ k, SameIn (w3.drewN k) (.iface u' (.pointer (some ⟨p', 0, none⟩))) (.iface u (.pointer (some ⟨p, 0, none⟩))) true) := S2
  have e1 : Hid (∀ k, Calls Ybad.prog 10 #[.slice (some ⟨g, 0, none⟩) e.length cp, .slice (some ⟨g', 0, none⟩) e.length cp'] (w3.drewN k) fun r w' => r = .returned (.bool true) ∧ ∃ m, w' = (w3.drewN k).drewN m) := E1
  clear S1 S2 E1 tr2 tr' own2 own'
  go_wp2_with fail
  refine s1.out.mono ?_
  rintro r w4 ⟨rfl, k1, rfl⟩
  go_wp2_with fail
  refine (s2.out k1).mono ?_
  rintro r w4 ⟨rfl, k2, rfl⟩
  go_wp2_with fail
  refine (e1.out (k1 + k2)).mono ?_
  rintro r w4 ⟨rfl, k3, rfl⟩
  go_wp2_with fail
  go_ret
  exact ⟨by simp, below_drewN BEL _⟩


set_option maxHeartbeats 2000000 in
set_option maxRecDepth 100000 in
theorem mutant_m1 (a : Option Addr) (n c : Nat) (sel kk : Nat) (T : Toks) (w : World) (hn : n ≤ 300) (hsel : sel ≤ 255) (hkk : kk ≤ 65535) (ht : TokAt w w.heap.size a n T) (h0 : 0 < n) (hm : (sel : Int) % 4 = 1) :
    Calls Ybad.prog 4 #[.slice a n c, .int .u8 sel, .int .u16 kk] w fun r w' => r = .returned (.bool true) ∧ Below w.heap.size w w' := by
  obtain ⟨F, hF⟩ : ∃ F, 300 ≤ F := ⟨300, Nat.le_refl _⟩
  obtain ⟨i0, hi, hz0, hz1, hz2⟩ := info_parts info35
  have hmk := fun w => run_make (P := Ybad.prog) w 22 35 i0 _ Ybad.underlying22 hi hz0 .i64 .i64 n n (by omega) (by omega) (by rw [hz2]; omega) (by omega)
  simp only [hz1, Int.toNat_natCast] at hmk
  obtain ⟨w1, hcp, hg1, bel, hsz1⟩ := copy_world c #[.int .u8 0, .int .i64 0, .string ⟨#[]⟩] ht
  have tx : TokAt w1 w1.heap.size a n T := ht.up bel (Nat.le_of_lt hsz1)
  have ty : TokAt w1 w1.heap.size (some ⟨w.heap.size, 0, none⟩) n T := tok_row hg1 hsz1 ht.kinds
  have hkn : kk % n < n := Nat.mod_lt _ h0
  have hI0 : 0 ≤ (kk : Int) % (n : Int) := Int.emod_nonneg _ (by omega)
  have hI1 : (kk : Int) % (n : Int) < (n : Int) := Int.emod_lt_of_pos _ (by omega)
  obtain ⟨tb, to, ead, htb, c0, c1, c2, b0, b1⟩ := ty (kk % n) hkn
  injection ead with ead
  injection ead with e1 e2
  subst e1 e2
  simp only [Nat.zero_add] at c0 c1 c2
  obtain ⟨K, HK⟩ : ∃ K, Hid (T.kind (kk % n) = K) := ⟨_, rfl⟩
  obtain ⟨V, HV⟩ : ∃ V, Hid (T.val (kk % n) = V) := ⟨_, rfl⟩
  obtain ⟨S, HS⟩ : ∃ S, Hid (T.str (kk % n) = S) := ⟨_, rfl⟩
  rw [HK.out] at c0 b0 b1
  rw [HV.out] at c1
  rw [HS.out] at c2
  have f0 : w1.frozen? ⟨w.heap.size, kk % n * 3, none⟩ = false := by simp [World.frozen?, hg1]
  have f1 : w1.frozen? ⟨w.heap.size, kk % n * 3 + 1, none⟩ = false := by simp [World.frozen?, hg1]
  have f2 : w1.frozen? ⟨w.heap.size, kk % n * 3 + 2, none⟩ = false := by simp [World.frozen?, hg1]
  obtain ⟨W, hW, txW, tyW, belW, hszW⟩ := mut_world (k := kk % n) ((K + 1) % 256) (V) (S) ht ty bel hkn (by omega) (by omega)
  clear bel tx ty htb
  have H1 := tree_any a n c 1 T W F hn (by omega) txW
  have H2 := fun w1 (h : TokAt w1 w1.heap.size (some ⟨w.heap.size, 0, none⟩) n (T.put (kk % n) ((K + 1) % 256) (V) (S))) => tree_any (some ⟨w.heap.size, 0, none⟩) n n 5 (T.put (kk % n) ((K + 1) % 256) (V) (S)) w1 F hn (by omega) h
  have bd := (encF_bd T n F 0 (Nat.zero_le _)).2
  have hlen : (encF T n F 0).1.length ≤ 1000000 := by omega
  clear bd
  generalize (encF T n F 0).1 = e at *
  generalize (encF (T.put (kk % n) ((K + 1) % 256) (V) (S)) n F 0).1 = e' at *
  have h1 : Hid (Calls Ybad.prog 8 #[.slice a n c, .int .i64 1] W fun r w' => TreePost W (F + 1) e r w') := H1
  have h2 : Hid (∀ w1, TokAt w1 w1.heap.size (some ⟨w.heap.size, 0, none⟩) n (T.put (kk % n) ((K + 1) % 256) (V) (S)) → Calls Ybad.prog 8 #[.slice (some ⟨w.heap.size, 0, none⟩) n n, .int .i64 5] w1 fun r w' => TreePost w1 (F + 1) e' r w') := H2
  clear H1 H2 ht hi hz0 hz1 hz2
  go_enter Ybad.func4, Ybad.ntmps4
  go_wp2_with fail
  clear hmk hcp hW c0 c1 c2 f0 f1 f2
  refine h1.out.mono ?_
  rintro r w2 ⟨v, g, cp, rfl, tr, own, belA, szA⟩
  obtain ⟨u, p, rfl⟩ := tr.shape
  go_wp2_with fail
  refine (h2.out w2 (tyW.up belA szA)).mono ?_
  rintro r w3 ⟨v', g', cp', rfl, tr', own', belB, szB⟩
  obtain ⟨u', p', rfl⟩ := tr'.shape
  have tr2 := tr.below belB
  have own2 := own_below own belB
  have BEL := (belW.trans (belA.mono (by omega))).trans (belB.mono (by omega))
  clear h1 h2 tr own belA belB szA szB txW tyW belW hg1
  have S1 := same_all _ _ _ _ _ _ _ _ w3 tr2 tr'
  have S2 := fun k => same_all _ _ _ _ _ _ _ _ (w3.drewN k) (tr'.kept ((Kept.refl w3).drewN k)) (tr2.kept ((Kept.refl w3).drewN k))
  rw [eqE_comm] at S1
  have E1 := fun k => equal_enc _ _ g g' cp cp' e e' (w3.drewN k) hlen own2 own'
  simp only [eqE_comm e e'] at E1
  generalize eqE e' e = x at *
  have s1 : Hid (SameIn w3 (.iface u (.pointer (some ⟨p, 0, none⟩))) (.iface u' (.pointer (some ⟨p', 0, none⟩))) x) := S1
  have s2 : Hid (∀ k, SameIn (w3.drewN k) (.iface u' (.pointer (some ⟨p', 0, none⟩))) (.iface u (.pointer (some ⟨p, 0, none⟩))) x) := S2
  have e1 : Hid (∀ k, Calls Ybad.prog 10 #[.slice (some ⟨g, 0, none⟩) e.length cp, .slice (some ⟨g', 0, none⟩) e'.length cp'] (w3.drewN k) fun r w' => r = .returned (.bool x) ∧ ∃ m, w' = (w3.drewN k).drewN m) := E1
  clear S1 S2 E1 tr2 tr' own2 own'
  go_wp2_with fail
  refine s1.out.mono ?_
  rintro r w4 ⟨rfl, k1, rfl⟩
  go_wp2_with fail
  refine (s2.out k1).mono ?_
  rintro r w4 ⟨rfl, k2, rfl⟩
  go_wp2_with fail
  refine (e1.out (k1 + k2)).mono ?_
  rintro r w4 ⟨rfl, k3, rfl⟩
  go_wp2_with fail
  go_ret
  exact ⟨by simp, below_drewN BEL _⟩


set_option maxHeartbeats 2000000 in
set_option maxRecDepth 100000 in
theorem mutant_m2 (a : Option Addr) (n c : Nat) (sel kk : Nat) (T : Toks) (w : World) (hn : n ≤ 300) (hsel : sel ≤ 255) (hkk : kk ≤ 65535) (ht : TokAt w w.heap.size a n T) (h0 : 0 < n) (hm : (sel : Int) % 4 = 2) :
    Calls Ybad.prog 4 #[.slice a n c, .int .u8 sel, .int .u16 kk] w fun r w' => r = .returned (.bool true) ∧ Below w.heap.size w w' := by
  obtain ⟨F, hF⟩ : ∃ F, 300 ≤ F := ⟨300, Nat.le_refl _⟩
  obtain ⟨i0, hi, hz0, hz1, hz2⟩ := info_parts info35
  have hmk := fun w => run_make (P := Ybad.prog) w 22 35 i0 _ Ybad.underlying22 hi hz0 .i64 .i64 n n (by omega) (by omega) (by rw [hz2]; omega) (by omega)
  simp only [hz1, Int.toNat_natCast] at hmk
  obtain ⟨w1, hcp, hg1, bel, hsz1⟩ := copy_world c #[.int .u8 0, .int .i64 0, .string ⟨#[]⟩] ht
  have tx : TokAt w1 w1.heap.size a n T := ht.up bel (Nat.le_of_lt hsz1)
  have ty : TokAt w1 w1.heap.size (some ⟨w.heap.size, 0, none⟩) n T := tok_row hg1 hsz1 ht.kinds
  have hkn : kk % n < n := Nat.mod_lt _ h0
  have hI0 : 0 ≤ (kk : Int) % (n : Int) := Int.emod_nonneg _ (by omega)
  have hI1 : (kk : Int) % (n : Int) < (n : Int) := Int.emod_lt_of_pos _ (by omega)
  obtain ⟨tb, to, ead, htb, c0, c1, c2, b0, b1⟩ := ty (kk % n) hkn
  injection ead with ead
  injection ead with e1 e2
  subst e1 e2
  simp only [Nat.zero_add] at c0 c1 c2
  obtain ⟨K, HK⟩ : ∃ K, Hid (T.kind (kk % n) = K) := ⟨_, rfl⟩
  obtain ⟨V, HV⟩ : ∃ V, Hid (T.val (kk % n) = V) := ⟨_, rfl⟩
  obtain ⟨S, HS⟩ : ∃ S, Hid (T.str (kk % n) = S) := ⟨_, rfl⟩
  rw [HK.out] at c0 b0 b1
  rw [HV.out] at c1
  rw [HS.out] at c2
  have f0 : w1.frozen? ⟨w.heap.size, kk % n * 3, none⟩ = false := by simp [World.frozen?, hg1]
  have f1 : w1.frozen? ⟨w.heap.size, kk % n * 3 + 1, none⟩ = false := by simp [World.frozen?, hg1]
  have f2 : w1.frozen? ⟨w.heap.size, kk % n * 3 + 2, none⟩ = false := by simp [World.frozen?, hg1]
  obtain ⟨W, hW, txW, tyW, belW, hszW⟩ := mut_world (k := kk % n) (K) (wrap64 (V + 1)) (S) ht ty bel hkn (by omega) (by omega)
  clear bel tx ty htb
  have H1 := tree_any a n c 1 T W F hn (by omega) txW
  have H2 := fun w1 (h : TokAt w1 w1.heap.size (some ⟨w.heap.size, 0, none⟩) n (T.put (kk % n) (K) (wrap64 (V + 1)) (S))) => tree_any (some ⟨w.heap.size, 0, none⟩) n n 5 (T.put (kk % n) (K) (wrap64 (V + 1)) (S)) w1 F hn (by omega) h
  have bd := (encF_bd T n F 0 (Nat.zero_le _)).2
  have hlen : (encF T n F 0).1.length ≤ 1000000 := by omega
  clear bd
  generalize (encF T n F 0).1 = e at *
  generalize (encF (T.put (kk % n) (K) (wrap64 (V + 1)) (S)) n F 0).1 = e' at *
  have h1 : Hid (Calls Ybad.prog 8 #[.slice a n c, .int .i64 1] W fun r w' => TreePost W (F + 1) e r w') := H1
  have h2 : Hid (∀ w1, TokAt w1 w1.heap.size (some ⟨w.heap.size, 0, none⟩) n (T.put (kk % n) (K) (wrap64 (V + 1)) (S)) → Calls Ybad.prog 8 #[.slice (some ⟨w.heap.size, 0, none⟩) n n, .int .i64 5] w1 fun r w' => TreePost w1 (F + 1) e' r w') := H2
  clear H1 H2 ht hi hz0 hz1 hz2
  go_enter Ybad.func4, Ybad.ntmps4
  go_wp2_with fail
  clear hmk hcp hW c0 c1 c2 f0 f1 f2
  refine h1.out.mono ?_
  rintro r w2 ⟨v, g, cp, rfl, tr, own, belA, szA⟩
  obtain ⟨u, p, rfl⟩ := tr.shape
  go_wp2_with fail
  refine (h2.out w2 (tyW.up belA szA)).mono ?_
  rintro r w3 ⟨v', g', cp', rfl, tr', own', belB, szB⟩
  obtain ⟨u', p', rfl⟩ := tr'.shape
  have tr2 := tr.below belB
  have own2 := own_below own belB
  have BEL := (belW.trans (belA.mono (by omega))).trans (belB.mono (by omega))
  clear h1 h2 tr own belA belB szA szB txW tyW belW hg1
  have S1 := same_all _ _ _ _ _ _ _ _ w3 tr2 tr'
  have S2 := fun k => same_all _ _ _ _ _ _ _ _ (w3.drewN k) (tr'.kept ((Kept.refl w3).drewN k)) (tr2.kept ((Kept.refl w3).drewN k))
  rw [eqE_comm] at S1
  have E1 := fun k => equal_enc _ _ g g' cp cp' e e' (w3.drewN k) hlen own2 own'
  simp only [eqE_comm e e'] at E1
  generalize eqE e' e = x at *
  have s1 : Hid (SameIn w3 (.iface u (.pointer (some ⟨p, 0, none⟩))) (.iface u' (.pointer (some ⟨p', 0, none⟩))) x) := S1
  have s2 : Hid (∀ k, SameIn (w3.drewN k) (.iface u' (.pointer (some ⟨p', 0, none⟩))) (.iface u (.pointer (some ⟨p, 0, none⟩))) x) := S2
  have e1 : Hid (∀ k, Calls Ybad.prog 10 #[.slice (some ⟨g, 0, none⟩) e.length cp, .slice (some ⟨g', 0, none⟩) e'.length cp'] (w3.drewN k) fun r w' => r = .returned (.bool x) ∧ ∃ m, w' = (w3.drewN k).drewN m) := E1
  clear S1 S2 E1 tr2 tr' own2 own'
  go_wp2_with fail
  refine s1.out.mono ?_
  rintro r w4 ⟨rfl, k1, rfl⟩
  go_wp2_with fail
  refine (s2.out k1).mono ?_
  rintro r w4 ⟨rfl, k2, rfl⟩
  go_wp2_with fail
  refine (e1.out (k1 + k2)).mono ?_
  rintro r w4 ⟨rfl, k3, rfl⟩
  go_wp2_with fail
  go_ret
  exact ⟨by simp, below_drewN BEL _⟩


set_option maxHeartbeats 2000000 in
set_option maxRecDepth 100000 in
theorem mutant_m3 (a : Option Addr) (n c : Nat) (sel kk : Nat) (T : Toks) (w : World) (hn : n ≤ 300) (hsel : sel ≤ 255) (hkk : kk ≤ 65535) (ht : TokAt w w.heap.size a n T) (h0 : 0 < n) (hm : (sel : Int) % 4 = 3) (hS : ∀ j, j < n → (T.str j).size ≤ 140737488351232) :
    Calls Ybad.prog 4 #[.slice a n c, .int .u8 sel, .int .u16 kk] w fun r w' => r = .returned (.bool true) ∧ Below w.heap.size w w' := by
  obtain ⟨F, hF⟩ : ∃ F, 300 ≤ F := ⟨300, Nat.le_refl _⟩
  obtain ⟨i0, hi, hz0, hz1, hz2⟩ := info_parts info35
  have hmk := fun w => run_make (P := Ybad.prog) w 22 35 i0 _ Ybad.underlying22 hi hz0 .i64 .i64 n n (by omega) (by omega) (by rw [hz2]; omega) (by omega)
  simp only [hz1, Int.toNat_natCast] at hmk
  obtain ⟨w1, hcp, hg1, bel, hsz1⟩ := copy_world c #[.int .u8 0, .int .i64 0, .string ⟨#[]⟩] ht
  have tx : TokAt w1 w1.heap.size a n T := ht.up bel (Nat.le_of_lt hsz1)
  have ty : TokAt w1 w1.heap.size (some ⟨w.heap.size, 0, none⟩) n T := tok_row hg1 hsz1 ht.kinds
  have hkn : kk % n < n := Nat.mod_lt _ h0
  have hI0 : 0 ≤ (kk : Int) % (n : Int) := Int.emod_nonneg _ (by omega)
  have hI1 : (kk : Int) % (n : Int) < (n : Int) := Int.emod_lt_of_pos _ (by omega)
  obtain ⟨tb, to, ead, htb, c0, c1, c2, b0, b1⟩ := ty (kk % n) hkn
  injection ead with ead
  injection ead with e1 e2
  subst e1 e2
  simp only [Nat.zero_add] at c0 c1 c2
  obtain ⟨K, HK⟩ : ∃ K, Hid (T.kind (kk % n) = K) := ⟨_, rfl⟩
  obtain ⟨V, HV⟩ : ∃ V, Hid (T.val (kk % n) = V) := ⟨_, rfl⟩
  obtain ⟨S, HS⟩ : ∃ S, Hid (T.str (kk % n) = S) := ⟨_, rfl⟩
  rw [HK.out] at c0 b0 b1
  rw [HV.out] at c1
  rw [HS.out] at c2
  have f0 : w1.frozen? ⟨w.heap.size, kk % n * 3, none⟩ = false := by simp [World.frozen?, hg1]
  have f1 : w1.frozen? ⟨w.heap.size, kk % n * 3 + 1, none⟩ = false := by simp [World.frozen?, hg1]
  have f2 : w1.frozen? ⟨w.heap.size, kk % n * 3 + 2, none⟩ = false := by simp [World.frozen?, hg1]
  obtain ⟨W, hW, txW, tyW, belW, hszW⟩ := mut_world (k := kk % n) (K) (V) (S ++ ⟨#[122]⟩) ht ty bel hkn (by omega) (by omega)
  clear bel tx ty htb
  have H1 := tree_any a n c 1 T W F hn (by omega) txW
  have H2 := fun w1 (h : TokAt w1 w1.heap.size (some ⟨w.heap.size, 0, none⟩) n (T.put (kk % n) (K) (V) (S ++ ⟨#[122]⟩))) => tree_any (some ⟨w.heap.size, 0, none⟩) n n 5 (T.put (kk % n) (K) (V) (S ++ ⟨#[122]⟩)) w1 F hn (by omega) h
  have bd := (encF_bd T n F 0 (Nat.zero_le _)).2
  have hlen : (encF T n F 0).1.length ≤ 1000000 := by omega
  clear bd
  generalize (encF T n F 0).1 = e at *
  generalize (encF (T.put (kk % n) (K) (V) (S ++ ⟨#[122]⟩)) n F 0).1 = e' at *
  have h1 : Hid (Calls Ybad.prog 8 #[.slice a n c, .int .i64 1] W fun r w' => TreePost W (F + 1) e r w') := H1
  have h2 : Hid (∀ w1, TokAt w1 w1.heap.size (some ⟨w.heap.size, 0, none⟩) n (T.put (kk % n) (K) (V) (S ++ ⟨#[122]⟩)) → Calls Ybad.prog 8 #[.slice (some ⟨w.heap.size, 0, none⟩) n n, .int .i64 5] w1 fun r w' => TreePost w1 (F + 1) e' r w') := H2
  clear H1 H2 ht hi hz0 hz1 hz2
  have hS1 : S.size ≤ 140737488351232 := by rw [← HS.out]; exact hS _ hkn
  go_enter Ybad.func4, Ybad.ntmps4
  go_wp2_with fail
  clear hmk hcp hW c0 c1 c2 f0 f1 f2
  refine h1.out.mono ?_
  rintro r w2 ⟨v, g, cp, rfl, tr, own, belA, szA⟩
  obtain ⟨u, p, rfl⟩ := tr.shape
  go_wp2_with fail
  refine (h2.out w2 (tyW.up belA szA)).mono ?_
  rintro r w3 ⟨v', g', cp', rfl, tr', own', belB, szB⟩
  obtain ⟨u', p', rfl⟩ := tr'.shape
  have tr2 := tr.below belB
  have own2 := own_below own belB
  have BEL := (belW.trans (belA.mono (by omega))).trans (belB.mono (by omega))
  clear h1 h2 tr own belA belB szA szB txW tyW belW hg1
  have S1 := same_all _ _ _ _ _ _ _ _ w3 tr2 tr'
  have S2 := fun k => same_all _ _ _ _ _ _ _ _ (w3.drewN k) (tr'.kept ((Kept.refl w3).drewN k)) (tr2.kept ((Kept.refl w3).drewN k))
  rw [eqE_comm] at S1
  have E1 := fun k => equal_enc _ _ g g' cp cp' e e' (w3.drewN k) hlen own2 own'
  simp only [eqE_comm e e'] at E1
  generalize eqE e' e = x at *
  have s1 : Hid (SameIn w3 (.iface u (.pointer (some ⟨p, 0, none⟩))) (.iface u' (.pointer (some ⟨p', 0, none⟩))) x) := S1
  have s2 : Hid (∀ k, SameIn (w3.drewN k) (.iface u' (.pointer (some ⟨p', 0, none⟩))) (.iface u (.pointer (some ⟨p, 0, none⟩))) x) := S2
  have e1 : Hid (∀ k, Calls Ybad.prog 10 #[.slice (some ⟨g, 0, none⟩) e.length cp, .slice (some ⟨g', 0, none⟩) e'.length cp'] (w3.drewN k) fun r w' => r = .returned (.bool x) ∧ ∃ m, w' = (w3.drewN k).drewN m) := E1
  clear S1 S2 E1 tr2 tr' own2 own'
  go_wp2_with fail
  refine s1.out.mono ?_
  rintro r w4 ⟨rfl, k1, rfl⟩
  go_wp2_with fail
  refine (s2.out k1).mono ?_
  rintro r w4 ⟨rfl, k2, rfl⟩
  go_wp2_with fail
  refine (e1.out (k1 + k2)).mono ?_
  rintro r w4 ⟨rfl, k3, rfl⟩
  go_wp2_with fail
  go_ret
  exact ⟨by simp, below_drewN BEL _⟩

end Go.Proofs.YbulkbuxwDoor
