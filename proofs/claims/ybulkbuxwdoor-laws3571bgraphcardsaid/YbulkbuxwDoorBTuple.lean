/-
  zzs3571bbuild at a tuple token: a loop that calls itself.
-/
import Derived.Test.YbulkbuxwDoorBApply
import Derived.Test.YbulkbuxwDoorBTup
namespace Go.Proofs.YbulkbuxwDoor
open Go.RowKit

theorem arity_wrap (V : Int) : IntKind.u64.wrap V % 4 = (arity V : Int) := by
  rw [IntKind.wrap_u64]; unfold arity; omega

set_option maxHeartbeats 2000000 in
set_option maxRecDepth 100000 in
/-- A tuple token. -/
theorem build_tuple (tb to n tc i : Nat) (T : Toks) (f m : Nat) (K V : Int) (S : ByteArray) (row : Int) (B bi bo : Nat) (e : List Norm) (w : World) (hn : n ≤ 300) (hst : St w B bi bo i e) (he : e.length + 3 * (n - i) + 1 ≤ 100000) (hi : i < n) (hf : n ≤ i + (f + 1))
    (ih : BuildSaid (some ⟨tb, to, none⟩) n tc row B bi bo T f) (htok : TokAt w B (some ⟨tb, to, none⟩) n T)
    (c0 : w.cell? ⟨tb, to + i * 3, none⟩ = some (.int .u8 K)) (c1 : w.cell? ⟨tb, to + i * 3 + 1, none⟩ = some (.int .i64 V)) (c2 : w.cell? ⟨tb, to + i * 3 + 2, none⟩ = some (.string S)) (k0 : 0 ≤ K) (k1 : K ≤ 255)
    (hk : K % 4 = 3) (hm : arity V = m) :
    Calls Ybad.prog 12 #[.slice (some ⟨tb, to, none⟩) n tc, .pointer (some ⟨bi, 0, none⟩), .int .i64 row, .pointer (some ⟨bo, 0, none⟩)] w fun r w' =>
      BuildPost w B bi bo (f + 2) (encMany (encF T n f) m (i + 1)).2 e ((3, (m : Int), nils) :: (encMany (encF T n f) m (i + 1)).1) r w' := by
  have hm3 : m ≤ 3 := by have := arity_le V; omega
  obtain ⟨u, hu, u0, um⟩ : ∃ u, IntKind.u64.wrap V = u ∧ 0 ≤ u ∧ u % 4 = (m : Int) := ⟨_, rfl, by rw [IntKind.wrap_u64]; omega, by rw [arity_wrap, hm]⟩
  clear hm
  obtain ⟨i0, hi0, hz0, hz1, hz2⟩ := info_parts info31
  obtain ⟨i1, hj0, hy0, hy1, hy2⟩ := info_parts info24
  have hmk := fun w => run_make (P := Ybad.prog) w 76 24 i1 _ Ybad.underlying76 hj0 hy0 .i64 .i64 0 m (by omega) (by omega) (by rw [hy2]; omega) (by omega)
  simp only [hy1, Int.toNat_natCast, Int.toNat_zero, Nat.mul_one] at hmk
  have ci := cell_of_one hst.ib
  have fi := free_of_one hst.ib
  have hbi := lt_of_block hst.ib
  have hBw := hst.lt
  obtain ⟨W, hW, st, hsz, hb35, hb42, hbel, hkep⟩ := enter_world hst K V row S
  subst hW
  obtain ⟨a, len, cap, hob, hown⟩ := st.ob
  have co := cell_of_one hob
  have hbo := lt_of_block hob
  go_enter Ybad.func12, Ybad.ntmps12
  go_wp2_with (at_builtin; refine wpList_append_lies _ rfl _ _ 25 rfl B 31 i0 _ 3 32 Ybad.underlying25 hi0 hz0 hz1 hz2 rfl (by decide) _ _ _ rfl (hown.alloc _) ⟨w.heap.size + 2, 0, none⟩ 1 1 (ncells (3, (m : Int), nils)) rfl rfl ?c1 (ncells_one _) (by decide) ?c3 ?c4 ?c5 _ rfl ?_)
  case c1 => exact news3' _ (3, (m : Int), nils) _ (by simp)
  case c3 => unfold maxLen; omega
  case c4 => omega
  case c5 => simp; omega
  intro gg cap' w1 hown1 hgrow hat hlt
  obtain ⟨co1, fo1⟩ := (st.alloc (.cells #[.int .u8 3, .int .i64 (m : Int), .string ⟨#[]⟩] 31)).outAt ((Below.heap_alloc _ _ _ hbo).trans hob) hgrow
  obtain ⟨W2, hW2, st2, bel2, kep2⟩ := st.emitted (3, (m : Int), nils) hob hgrow hown1
  have BEL := hbel.trans bel2
  have KEP := hkep.trans kep2
  have box := kep2.node _ _ _ rfl hb42
  clear hgrow hown1 hat hlt co ci fi c0 c1 c2 hown hob hi0 hz0 hz1 hz2 hst st hbel hkep bel2 kep2 hbo hb35 hb42 hsz
  go_wp2_with fail
  clear hmk hW2 co1 fo1 w1
  go_loopw [15, 16] (fun el j wr => ∃ q : Nat, q ≤ m ∧ j = .int .i64 q ∧ el = .slice (some ⟨W2.heap.size, 0, none⟩) q m ∧ TupMid w wr B bi bo W2.heap.size (w.heap.size + 1) f i m q n row T e) (fun _ j _ => m - (intOf j).toNat)
  case atStart => exact ⟨0, Nat.zero_le _, rfl, rfl, tup_start _ st2 box BEL KEP hm3 (size_madeCells _ _)⟩
  case round =>
    obtain ⟨q, hq, rfl, rfl, hmid⟩ := hrel
    by_cases hlt : q < m
    · obtain ⟨vs, es, hown, hel, hef, hes⟩ := hmid.els
      obtain ⟨a1, a2, a3⟩ := encMany_bd (encF_bd T n f) q (i + 1) (by omega)
      have HES : Hid (es.length = q ∧ es.flatten = (encMany (encF T n f) q (i + 1)).1 ∧ ∀ p, p < q → ∃ vq, vs[p]? = some vq ∧ Tree wr (W2.heap.size + 1) (f + 1) vq (es.getD p [])) := ⟨hel, hef, hes⟩
      clear hel hef hes
      go_wp2_with fail
      refine (ih _ _ wr a2 (by omega) hmid.st (by simp only [List.length_append, List.length_cons]; omega) (htok.below hmid.bel)).mono ?_
      rintro r w3 ⟨v, rfl, tr, st3, bel3, kep3⟩
      obtain ⟨u1, p1, rfl⟩ := tr.shape
      have hown3 := ownsRow_kept hown kep3
      go_wp2_with (at_builtin; refine wpList_append_fits _ rfl _ _ 76 rfl B 24 i1 1 Ybad.underlying76 hj0 hy1 W2.heap.size q m vs rfl (hown3.alloc _) ⟨w3.heap.size, 0, none⟩ 1 1 [.iface u1 (.pointer (some ⟨p1, 0, none⟩))] rfl rfl ?d1 ?d2 ?d3 ?_)
      case d1 =>
        intro j x hj
        match j, hj with
        | 0, hj => simp at hj; subst hj; simp [Addr.add]
      case d2 => intro x hx; simp at hx; subst hx; rfl
      case d3 => omega
      intro w4 hown4 hg4
      have MID := tup_step hmid hown HES.out.1 HES.out.2.1 HES.out.2.2 tr st3 bel3 kep3 hown4 hg4
      clear hown4 hg4 hown3 tr st3 bel3 kep3 hown HES hmid
      go_wp2_with fail
      go_roundw
      case rel => exact ⟨q + 1, by omega, by go_num, rfl, MID⟩
      case measure => simp [intOf]; omega
    · obtain rfl : q = m := by omega
      have cr : wr.cell? ⟨w.heap.size + 1, 0, none⟩ = some (.int .i64 row) := by simp [World.cell?, hmid.box]
      have cc : wr.cell? ⟨w.heap.size + 1, 1, none⟩ = some (.int .i64 i) := by simp [World.cell?, hmid.box]
      go_wp2_with fail
      go_ret
      exact ⟨_, rfl, tup_end hmid _ _ hm3 _ rfl, hmid.st.alloc _, hmid.bel.alloc hmid.st.lt _, hmid.kep.alloc _⟩
end Go.Proofs.YbulkbuxwDoor
