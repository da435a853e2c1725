/-
  slices.Equal at two slices of normal tokens.
-/
import Derived.Test.YbulkbuxwDoorRows
import Derived.Test.YbulkbuxwDoorBHeap
import Derived.WalkSpells
import Derived.BigQuiet
import Derived.Deep.QuietTactic
import Derived.Laws.StructEq
namespace Go.Proofs.YbulkbuxwDoor
open Go.RowKit

theorem st31 : Ybad.prog.stoodInHeld 31 = false := by kernel_rfl
theorem gu31 : Ybad.prog.eqGuardType Ybad.prog.depth 31 = false := by kernel_rfl
theorem fl31 : Ybad.prog.underlying 31 = some (.struct (Ybad.prog.fieldsOf 31)) := by unfold Program.fieldsOf; rw [Ybad.underlying31]
set_option maxRecDepth 100000 in
/-- '!=' on two normal tokens. -/
theorem neq31 (a b c d : Int) (s t : ByteArray) (w : World) : (binOp .neq 31 (.agg #[.int .u8 a, .int .i64 c, .string s]) (.agg #[.int .u8 b, .int .i64 d, .string t])).run Ybad.prog w = .ok (.bool (!(a == b && c == d && s.toList == t.toList))) w := by
  rw [run_neq_struct, run_equalIn_agg w 9999 31 _ _ fl31 st31]
  unfold Program.fieldsOf
  rw [Ybad.underlying31]
  simp [go_sem, Op.eqFields, Ybad.underlying5, Ybad.underlying2, Ybad.underlying9]
  by_cases h1 : a = b <;> by_cases h2 : c = d <;> by_cases h3 : s.toList = t.toList <;> simp [h1, h2, h3]

theorem norm_beq (a b c d : Int) (s t : ByteArray) : (a == b && c == d && s.toList == t.toList) = decide (((a, c, s) : Norm) = (b, d, t)) := by
  have hs : (s.toList == t.toList) = decide (s = t) := by
    rw [Bool.eq_iff_iff]
    simp only [beq_iff_eq, decide_eq_true_eq]
    refine ⟨fun h => ?_, fun h => by rw [h]⟩
    rw [ByteArray.toList_eq, ByteArray.toList_eq] at h
    exact WideShapes.bytes_inj h
  rw [hs, Bool.eq_iff_iff]
  simp [and_assoc]

set_option maxHeartbeats 1000000 in
set_option maxRecDepth 100000 in
theorem equal_any (g g' n cp cp' : Nat) (E E' : Nat → Norm) (x : Bool) (w : World) (hn : n ≤ 1000000)
    (h : ∀ i, i < n → w.cell? ⟨g, i * 3, none⟩ = some (.int .u8 (E i).1) ∧ w.cell? ⟨g, i * 3 + 1, none⟩ = some (.int .i64 (E i).2.1) ∧ w.cell? ⟨g, i * 3 + 2, none⟩ = some (.string (E i).2.2))
    (h' : ∀ i, i < n → w.cell? ⟨g', i * 3, none⟩ = some (.int .u8 (E' i).1) ∧ w.cell? ⟨g', i * 3 + 1, none⟩ = some (.int .i64 (E' i).2.1) ∧ w.cell? ⟨g', i * 3 + 2, none⟩ = some (.string (E' i).2.2))
    (hx : x = true ↔ ∀ i, i < n → E i = E' i) :
    Calls Ybad.prog 10 #[.slice (some ⟨g, 0, none⟩) n cp, .slice (some ⟨g', 0, none⟩) n cp'] w fun r w' => r = .returned (.bool x) ∧ ∃ m, w' = w.drewN m := by
  have HH : Hid (∀ i, i < n → (w.cell? ⟨g, i * 3, none⟩ = some (.int .u8 (E i).1) ∧ w.cell? ⟨g, i * 3 + 1, none⟩ = some (.int .i64 (E i).2.1) ∧ w.cell? ⟨g, i * 3 + 2, none⟩ = some (.string (E i).2.2)) ∧
    w.cell? ⟨g', i * 3, none⟩ = some (.int .u8 (E' i).1) ∧ w.cell? ⟨g', i * 3 + 1, none⟩ = some (.int .i64 (E' i).2.1) ∧ w.cell? ⟨g', i * 3 + 2, none⟩ = some (.string (E' i).2.2)) := fun i hi => ⟨h i hi, h' i hi⟩
  have HX : Hid (x = true ↔ ∀ i, i < n → E i = E' i) := hx
  clear h h' hx
  go_enter Ybad.func10, Ybad.ntmps10
  go_wp2_with fail
  go_loopw [5, 13] (fun _ j wx => ∃ k : Nat, k ≤ n ∧ j = .int .i64 k ∧ Hid (∀ i, i < k → E i = E' i) ∧ ∃ d, wx = w.drewN d) (fun _ j _ => n - (intOf j).toNat)
  case atStart => exact ⟨0, Nat.zero_le _, rfl, fun i hi => absurd hi (Nat.not_lt_zero i), 0, rfl⟩
  case round =>
    obtain ⟨k, hk, rfl, hall, hd⟩ := hrel
    have HD : Hid (∃ d, wr = w.drewN d) := hd
    by_cases hlt : k < n
    · have hpk : (wr.cell? ⟨g, k * 3, none⟩ = some (.int .u8 (E k).1) ∧ wr.cell? ⟨g, k * 3 + 1, none⟩ = some (.int .i64 (E k).2.1) ∧ wr.cell? ⟨g, k * 3 + 2, none⟩ = some (.string (E k).2.2)) ∧
          wr.cell? ⟨g', k * 3, none⟩ = some (.int .u8 (E' k).1) ∧ wr.cell? ⟨g', k * 3 + 1, none⟩ = some (.int .i64 (E' k).2.1) ∧ wr.cell? ⟨g', k * 3 + 2, none⟩ = some (.string (E' k).2.2) := by
        obtain ⟨d, rfl⟩ := hd
        exact HH.out k hlt
      obtain ⟨⟨c1, c2, c3⟩, c4, c5, c6⟩ := hpk
      clear hd
      obtain ⟨p, HP⟩ : ∃ p, Hid (E k = p) := ⟨_, rfl⟩
      rw [HP.out] at c1 c2 c3
      obtain ⟨p', HP'⟩ : ∃ p, Hid (E' k = p) := ⟨_, rfl⟩
      rw [HP'.out] at c4 c5 c6
      obtain ⟨pk, pv, ps⟩ := p
      obtain ⟨qk, qv, qs⟩ := p'
      cases hb : (pk == qk && pv == qv && ps.toList == qs.toList)
      · have hxf : x = false := by
          cases hxx : x
          · rfl
          · have := HX.out.1 hxx k hlt
            rw [HP.out, HP'.out] at this
            rw [norm_beq] at hb
            simp [this] at hb
        have hne : ∀ w, (binOp .neq 31 (.agg #[.int .u8 pk, .int .i64 pv, .string ps]) (.agg #[.int .u8 qk, .int .i64 qv, .string qs])).run Ybad.prog w = .ok (.bool true) w := fun w => by rw [neq31, hb]; rfl
        subst hxf
        clear hb HX HH HP HP' hall
        have hgd := gu31
        go_wp2_with fail
        go_quiet (fail)
        go_wp2_with fail
        go_ret
        obtain ⟨d, hd⟩ := HD.out
        exact ⟨rfl, _, by rw [hd, World.drewN_drewN]⟩
      · have HE : Hid (E k = E' k) := by
          rw [norm_beq, decide_eq_true_eq] at hb
          show E k = E' k
          rw [HP.out, HP'.out, hb]
        have hne : ∀ w, (binOp .neq 31 (.agg #[.int .u8 pk, .int .i64 pv, .string ps]) (.agg #[.int .u8 qk, .int .i64 qv, .string qs])).run Ybad.prog w = .ok (.bool false) w := fun w => by rw [neq31, hb]; rfl
        clear hb HX HH HP HP'
        have hgd := gu31
        go_wp2_with fail
        go_quiet (fail)
        go_wp2_with fail
        go_roundw
        case rel =>
          refine ⟨k + 1, by omega, by go_num, fun i hi => ?_, ?_⟩
          · rcases Nat.lt_succ_iff_lt_or_eq.1 hi with h1 | rfl
            · exact hall.out i h1
            · exact HE.out
          · obtain ⟨d, hd⟩ := HD.out
            exact ⟨_, by rw [hd, World.drewN_drewN]⟩
        case measure => simp [intOf]; omega
    · obtain rfl : k = n := by omega
      have hxt : x = true := HX.out.2 hall.out
      subst hxt
      clear HX HH hd hall
      go_wp2_with fail
      go_ret
      exact ⟨rfl, HD.out⟩

set_option maxHeartbeats 1000000 in
set_option maxRecDepth 100000 in
theorem equal_len (a a' : Option Addr) (n cp n' cp' : Nat) (w : World) (hne : ((n : Int) != (n' : Int)) = true) :
    Calls Ybad.prog 10 #[.slice a n cp, .slice a' n' cp'] w fun r w' => r = .returned (.bool false) ∧ ∃ m, w' = w.drewN m := by
  go_enter Ybad.func10, Ybad.ntmps10
  go_wp2_with fail
  go_ret
  exact ⟨rfl, 0, rfl⟩

/-- slices.Equal over two encodings. -/
theorem equal_enc (B B' g g' cp cp' : Nat) (e e' : List Norm) (w : World) (hl : e.length ≤ 1000000) (h : w.ownsRow B 31 3 (.slice (some ⟨g, 0, none⟩) e.length cp) e.length (encCells e)) (h' : w.ownsRow B' 31 3 (.slice (some ⟨g', 0, none⟩) e'.length cp') e'.length (encCells e')) :
    Calls Ybad.prog 10 #[.slice (some ⟨g, 0, none⟩) e.length cp, .slice (some ⟨g', 0, none⟩) e'.length cp'] w fun r w' => r = .returned (.bool (eqE e e')) ∧ ∃ m, w' = w.drewN m := by
  have cells : ∀ {B g cp : Nat} {e : List Norm}, w.ownsRow B 31 3 (.slice (some ⟨g, 0, none⟩) e.length cp) e.length (encCells e) → ∀ i, i < e.length →
      w.cell? ⟨g, i * 3, none⟩ = some (.int .u8 (e.getD i (0, 0, nils)).1) ∧ w.cell? ⟨g, i * 3 + 1, none⟩ = some (.int .i64 (e.getD i (0, 0, nils)).2.1) ∧ w.cell? ⟨g, i * 3 + 2, none⟩ = some (.string (e.getD i (0, 0, nils)).2.2) := by
    intro B g cp e ho i hi
    have hc := ho.cells (g := g) rfl
    have hadd : ∀ j, (⟨g, 0, none⟩ : Addr).add j = ⟨g, j, none⟩ := fun j => by unfold Addr.add; split <;> simp_all
    have hget : ∀ (e : List Norm) (i : Nat), i < e.length → (encCells e)[i * 3]? = some (.int .u8 (e.getD i (0, 0, nils)).1) ∧ (encCells e)[i * 3 + 1]? = some (.int .i64 (e.getD i (0, 0, nils)).2.1) ∧ (encCells e)[i * 3 + 2]? = some (.string (e.getD i (0, 0, nils)).2.2) := by
      intro e
      induction e with
      | nil => intro i hi; exact absurd hi (Nat.not_lt_zero i)
      | cons x r ih =>
        intro i hi
        have hx : encCells (x :: r) = .int .u8 x.1 :: .int .i64 x.2.1 :: .string x.2.2 :: encCells r := rfl
        cases i with
        | zero => rw [hx]; exact ⟨rfl, rfl, rfl⟩
        | succ i =>
          have hi' : i < r.length := by simpa using hi
          obtain ⟨a1, a2, a3⟩ := ih i hi'
          rw [hx]
          have e1 : (i + 1) * 3 = i * 3 + 3 := by omega
          rw [e1]
          exact ⟨by simpa using a1, by simpa using a2, by simpa using a3⟩
    obtain ⟨a1, a2, a3⟩ := hget e i hi
    refine ⟨?_, ?_, ?_⟩
    · have := hc _ _ a1; rwa [hadd] at this
    · have := hc _ _ a2; rwa [hadd] at this
    · have := hc _ _ a3; rwa [hadd] at this
  by_cases hll : e.length = e'.length
  · have c1 := cells h
    have c2 := cells h'
    rw [← hll] at c2 ⊢
    refine equal_any g g' e.length cp cp' (fun i => e.getD i (0, 0, nils)) (fun i => e'.getD i (0, 0, nils)) (eqE e e') w hl c1 c2 ?_
    simp only [eqE, decide_eq_true_eq]
    refine ⟨fun hh i _ => by rw [hh], fun hh => ?_⟩
    apply List.ext_getElem hll
    intro i h1 h2
    have := hh i h1
    simpa [List.getD_eq_getElem?_getD, h1, h2] using this
  · have hf : eqE e e' = false := by
      simp only [eqE, decide_eq_false_iff_not]
      exact fun hh => hll (by rw [hh])
    rw [hf]
    exact equal_len _ _ _ _ _ _ w (by rw [bne_iff_ne]; omega)
end Go.Proofs.YbulkbuxwDoor
