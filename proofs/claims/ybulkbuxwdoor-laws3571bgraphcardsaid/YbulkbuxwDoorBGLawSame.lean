/-
  The walk of LawS3571BGraph: no entry is wrapped.
-/
import Derived.Test.YbulkbuxwDoorBGLawHeap
namespace Go.Proofs.YbulkbuxwDoor
open Go.RowKit
set_option linter.unusedVariables false

set_option maxHeartbeats 4000000 in
set_option maxRecDepth 100000 in
theorem law_same (a : Option Addr) (n c mu : Nat) (X : Ents) (w : World) (hn : n ≤ 256) (hmu : mu ≤ 255) (hE : EntsAt w w.heap.size a n X) (hm : ((mu : Int) % 2 == 1) = false) :
    Calls Ybad.prog 5 #[.slice a n c, .int .u8 mu] w fun r w' => r = .returned (.bool true) ∧ Below w.heap.size w w' := by
  have HE : Hid (EntsAt w w.heap.size a n X) := hE
  clear hE
  go_enter Ybad.func5, Ybad.ntmps5
  go_wp2_with fail
  go_loopw [5] (fun j wx => ∃ k : Nat, k ≤ n ∧ j = .int .i64 k ∧ Hid (∀ i, i < k → X.TL i ≤ 256) ∧ w = wx) (fun j _ => n - (intOf j).toNat)
  case atStart => exact ⟨0, Nat.zero_le _, rfl, fun i hi => absurd hi (Nat.not_lt_zero i), rfl⟩
  case round =>
    obtain ⟨k, hk, rfl, hall, hw⟩ := hrel
    subst hw
    by_cases hlt : k < n
    · obtain ⟨eb, eo, rfl, hB, c0, c1, hsz, htok⟩ := HE.out k hlt
      by_cases hbig : 256 < X.TL k
      · clear htok HE hall
        go_wp2_with fail
        go_ret
        exact ⟨rfl, Below.refl _ _⟩
      · have hle : X.TL k ≤ 256 := by omega
        have HLE : Hid (X.TL k ≤ 256) := hle
        clear htok HE
        go_wp2_with fail
        go_roundw
        case rel =>
          refine ⟨k + 1, by omega, by go_num, fun i hi => ?_, by first | rfl | trivial⟩
          rcases Nat.lt_succ_iff_lt_or_eq.1 hi with h1 | rfl
          · exact hall.out i h1
          · exact HLE.out
        case measure => simp [intOf]; omega
    · obtain rfl : k = n := by omega
      go_wp2_with fail
      obtain ⟨F, hF⟩ : ∃ F, Hid (256 ≤ F) := ⟨256, Nat.le_refl _⟩
      obtain ⟨E, hEn⟩ : ∃ E : Nat → List Norm, Hid (∀ j, (encF (X.T j) (X.TL j) F 0).1 = E j) := ⟨_, fun _ => rfl⟩
      go_loopw [10] (fun j wx => ∃ i : Nat, i ≤ k ∧ j = .int .i64 i ∧ GraphAt (F + 2) wx w.heap.size w.heap.size (pref X.P E i) ∧ Below w.heap.size w wx ∧ w.heap.size < wx.heap.size) (fun j _ => k - (intOf j).toNat)
      case atStart => exact ⟨0, Nat.zero_le _, rfl, graph_start _ _ _ _ _, (Below.refl _ w).alloc (Nat.le_refl _) _, by simp⟩
      case round =>
        obtain ⟨i, hi, rfl, hgr, hbel, hsz⟩ := hrel
        by_cases hlt2 : i < k
        · obtain ⟨eb, eo, rfl, heb, hcell⟩ := ent_at HE.out i hlt2
          obtain ⟨c0, c1⟩ := hcell wr hbel
          have HT := tree_of HE.out hall.out hF.out hEn.out i hlt2 1 wr hbel (Nat.le_of_lt hsz)
          have ht : Hid (Calls Ybad.prog 8 #[.slice (X.TA i) (X.TL i) (X.TC i), .int .i64 1] wr fun r w' => TreePost wr (F + 1) (E i) r w') := HT
          have HC : Hid (∀ wx, Below w.heap.size w wx → wx.cell? ⟨eb, eo + i * 2, none⟩ = some (.string (X.P i)) ∧ wx.cell? ⟨eb, eo + i * 2 + 1, none⟩ = some (.slice (X.TA i) (X.TL i) (X.TC i))) := hcell
          clear HT hcell
          go_wp2_with fail
          clear c0 c1
          refine ht.out.mono ?_
          rintro r w1 ⟨v, g, cp, rfl, tr, own, belA, szA⟩
          have gr1 := hgr.below szA belA
          have bel1 := hbel.trans (belA.mono (Nat.le_of_lt hsz))
          have tr1 : Tree w1 0 (F + 2) v (E i) := (tr.low (Nat.zero_le _)).more 1
          obtain ⟨u, p, rfl⟩ := tr.shape
          obtain ⟨r0, c0, a0, cap0, vs0, hb, own0, hent⟩ := gr1
          rw [pref_length] at hb own0
          have ce : w1.cell? ⟨w.heap.size, 2, none⟩ = some (.slice a0 i cap0) := by simp [World.cell?, hb]
          have cpat := (HC.out w1 bel1).1
          have hlt1 : w.heap.size < w1.heap.size := Nat.lt_of_lt_of_le hsz szA
          obtain ⟨i0, hi0, hz0, hz1, hz2⟩ := info_parts info46
          have HG : Hid (∀ (j : Nat) (x : Ent), (pref X.P E i)[j]? = some x → ∃ v, vs0[j]? = some v ∧ EntryAt (F + 2) w1 v x) := hent
          have HTR : Hid (Tree w1 0 (F + 2) (.iface u (.pointer (some ⟨p, 0, none⟩))) (E i)) := tr1
          have hebl : eb < w1.heap.size := by omega
          have ce3 := fun o1 o2 o3 => (cell_alloc3 w1 o1 o2 o3 w.heap.size 2 hlt1).trans ce
          clear hent tr1 tr own hgr belA ht
          go_wp2_with fail
          go_region_law ((refine step_append_lies _ (by rfl) _ _ 43 (by rfl) w.heap.size 46 i0 _ 1 8 Ybad.underlying43 hi0 hz0 hz1 hz2 rfl (by omega) (.slice a0 i cap0) i vs0 (by rfl) ((((own0.alloc _).alloc _).alloc _).drew) ⟨w1.heap.size + 2, 0, none⟩ 1 1 [.pointer (some ⟨w1.heap.size + 1, 0, none⟩)] (by rfl) (by rfl) (one_new' _ _ 46 _ (by simp)) (by intro x hx; simp at hx; subst hx; rfl) (by omega) (by unfold maxLen; omega) (by omega) (by simp; omega) (w1.heap.size + 3) (by simp) ?_; intro gg cp2 w2 hown2 hgrow hat hltg; obtain ⟨gr2, bel2, sz2, cc2, ff2⟩ := graph_step (x := (X.P i, E i)) (pref_length X.P E i).symm hb own0 HG.out (Nat.le_refl _) HTR.out hgrow hown2))
          all_goals
            have hpr := pref_succ X.P E i
            rw [← hpr] at gr2
            have BEL := bel1.trans bel2
            have SIZ : w.heap.size < (w2.setCell ⟨w.heap.size, 2, none⟩ (.slice (some ⟨gg, 0, none⟩) (i + 1) cp2)).heap.size := Nat.lt_of_lt_of_le hlt1 sz2
            generalize w2.setCell ⟨w.heap.size, 2, none⟩ (.slice (some ⟨gg, 0, none⟩) (i + 1) cp2) = w4 at *
            clear hpr bel1 bel2 sz2 cc2 ff2 hown2 hgrow hat hltg ce3 HG HTR hb own0 ce cpat HC hi0 hz0 hz1 hz2
            go_wp2_with fail
            go_roundw
            case rel => exact ⟨i + 1, by omega, by go_num, gr2, BEL, SIZ⟩
            case measure => simp [intOf]; omega
        · obtain rfl : i = k := by omega
          obtain ⟨w3, hw3⟩ : ∃ w3, w3 = wr := ⟨_, rfl⟩
          subst hw3
          go_wp2_with fail
          go_loopw [14] (fun j wx => ∃ (q : Nat) (jj : Int), q ≤ i ∧ jj + 1 = q ∧ j = .int .i64 jj ∧ GraphAt (F + 2) wx w3.heap.size w3.heap.size (suf X.P E i q) ∧ Below w3.heap.size w3 wx ∧ w3.heap.size < wx.heap.size) (fun j _ => (intOf j + 1).toNat)
          case atStart => exact ⟨i, (i : Int) - 1, Nat.le_refl _, by omega, by go_num, by rw [suf_start]; exact graph_start _ _ _ _ _, (Below.refl _ w3).alloc (Nat.le_refl _) _, by simp⟩
          case round =>
            obtain ⟨q, jj, hq, hjj, rfl, hgr3, hbel3, hsz3⟩ := hrel
            cases q with
            | zero =>
              obtain rfl : jj = -1 := by omega
              have hbel4 := hbel.trans (hbel3.mono (Nat.le_of_lt hsz))
              have gA := hgr.below (Nat.le_of_lt hsz3) hbel3
              have HS := graph_any w.heap.size w3.heap.size _ _ (F + 2) i (pref X.P E i) (suf X.P E i 0) wr (pref_length _ _ _) (suf_length _ _ _ _) hn gA hgr3 (fun x hx => by
                  obtain ⟨j, hj, rfl⟩ := mem_pref hx
                  obtain ⟨_, _, _, _, _, _, h, _⟩ := HE.out j hj
                  exact h) (fun x hx => by
                  rw [suf_zero, List.mem_reverse] at hx
                  obtain ⟨j, hj, rfl⟩ := mem_pref hx
                  obtain ⟨_, _, _, _, _, _, h, _⟩ := HE.out j hj
                  exact h)
              have hS : Hid (Calls Ybad.prog 9 #[.iface 40 (.pointer (some ⟨w.heap.size, 0, none⟩)), .iface 40 (.pointer (some ⟨w3.heap.size, 0, none⟩))] wr fun r w' => ∃ x, r = .returned (.bool x) ∧ (x = true ↔ (pref X.P E i).Perm (suf X.P E i 0)) ∧ Below wr.heap.size wr w') := HS
              clear HS gA hgr hgr3 hbel3 hbel
              go_wp2_with fail
              refine hS.out.mono ?_
              rintro r w5 ⟨x, rfl, hx, bel5⟩
              have BEL := hbel4.trans (bel5.mono (by omega))
              have hxx : x = true := hx.2 (perm_same X.P E i)
              clear hx
              subst hxx
              clear hS bel5 hbel4
              go_wp2_with fail
              go_ret
              exact ⟨by simp, BEL⟩
            | succ q =>
              obtain rfl : jj = (q : Int) := by omega
              have hqi : q < i := by omega
              obtain ⟨eb, eo, rfl, heb, hcell⟩ := ent_at HE.out q (by omega)
              have hbelw := hbel.trans (hbel3.mono (Nat.le_of_lt hsz))
              obtain ⟨c0, c1⟩ := hcell wr hbelw
              have HT := tree_of HE.out hall.out hF.out hEn.out q (by omega) 9 wr hbelw (by omega)
              have ht : Hid (Calls Ybad.prog 8 #[.slice (X.TA q) (X.TL q) (X.TC q), .int .i64 9] wr fun r w' => TreePost wr (F + 1) (E q) r w') := HT
              have HC : Hid (∀ wx, Below w.heap.size w wx → wx.cell? ⟨eb, eo + q * 2, none⟩ = some (.string (X.P q)) ∧ wx.cell? ⟨eb, eo + q * 2 + 1, none⟩ = some (.slice (X.TA q) (X.TL q) (X.TC q))) := hcell
              have HBEL : Hid (Below w.heap.size w wr) := hbelw
              have HGR : Hid (GraphAt (F + 2) w3 w.heap.size w.heap.size (pref X.P E i) ∧ Below w.heap.size w w3) := ⟨hgr, hbel⟩
              clear HT hcell hgr hbel hbelw
              go_wp2_with fail
              clear c0 c1
              refine ht.out.mono ?_
              rintro r w1 ⟨v, g, cp, rfl, tr, own, belA, szA⟩
              have gr1 := hgr3.below szA belA
              have bel1 := HBEL.out.trans (belA.mono (by omega))
              have bel13 := hbel3.trans (belA.mono (Nat.le_of_lt hsz3))
              have tr1 : Tree w1 0 (F + 2) v (E q) := (tr.low (Nat.zero_le _)).more 1
              obtain ⟨u, p, rfl⟩ := tr.shape
              obtain ⟨r0, c0, a0, cap0, vs0, hb, own0, hent⟩ := gr1
              rw [suf_length] at hb own0
              obtain ⟨m, hm⟩ : ∃ m, Hid (i - (q + 1) = m) := ⟨_, rfl⟩
              rw [hm.out] at hb own0
              have hm256 : m ≤ 256 := by rw [← hm.out]; omega
              have ce : w1.cell? ⟨w3.heap.size, 2, none⟩ = some (.slice a0 m cap0) := by simp [World.cell?, hb]
              have cpat := (HC.out w1 bel1).1
              have hlt1 : w3.heap.size < w1.heap.size := Nat.lt_of_lt_of_le hsz3 szA
              obtain ⟨i0, hi0, hz0, hz1, hz2⟩ := info_parts info46
              have HG : Hid (∀ (j : Nat) (x : Ent), (suf X.P E i (q + 1))[j]? = some x → ∃ v, vs0[j]? = some v ∧ EntryAt (F + 2) w1 v x) := hent
              have HTR : Hid (Tree w1 0 (F + 2) (.iface u (.pointer (some ⟨p, 0, none⟩))) (E q)) := tr1
              have hebl : eb < w1.heap.size := by omega
              have ce3 := fun o1 o2 o3 => (cell_alloc3 w1 o1 o2 o3 w3.heap.size 2 hlt1).trans ce
              clear hent tr1 tr own hgr3 belA ht hbel3
              go_wp2_with fail
              go_region_law ((refine step_append_lies _ (by rfl) _ _ 43 (by rfl) w3.heap.size 46 i0 _ 1 8 Ybad.underlying43 hi0 hz0 hz1 hz2 rfl (by omega) (.slice a0 m cap0) m vs0 (by rfl) ((((own0.alloc _).alloc _).alloc _).drew) ⟨w1.heap.size + 2, 0, none⟩ 1 1 [.pointer (some ⟨w1.heap.size + 1, 0, none⟩)] (by rfl) (by rfl) (one_new' _ _ 46 _ (by simp)) (by intro x hx; simp at hx; subst hx; rfl) (by omega) (by unfold maxLen; omega) (by omega) (by simp; omega) (w1.heap.size + 3) (by simp) ?_; intro gg cp2 w2 hown2 hgrow hat hltg; obtain ⟨gr2, bel2, sz2, cc2, ff2⟩ := graph_step (x := (X.P q, E q)) (by rw [suf_length]; exact hm.out.symm) hb own0 HG.out (Nat.le_refl _) HTR.out hgrow hown2))
              all_goals
                have hpr : suf X.P E i q = suf X.P E i (q + 1) ++ [(X.P q, E q)] := suf_succ X.P E i q (by omega)
                rw [← hpr] at gr2
                have BEL := bel13.trans bel2
                have SIZ : w3.heap.size < (w2.setCell ⟨w3.heap.size, 2, none⟩ (.slice (some ⟨gg, 0, none⟩) (m + 1) cp2)).heap.size := Nat.lt_of_lt_of_le hlt1 sz2
                generalize w2.setCell ⟨w3.heap.size, 2, none⟩ (.slice (some ⟨gg, 0, none⟩) (m + 1) cp2) = w4 at *
                clear hpr bel1 bel13 bel2 sz2 cc2 ff2 hown2 hgrow hat hltg ce3 HG HTR hb own0 ce cpat HC hi0 hz0 hz1 hz2 HBEL
                go_wp2_with fail
                go_roundw
                case rel => exact ⟨q, (q : Int) - 1, by omega, by omega, by go_num, gr2, BEL, SIZ⟩
                case measure => simp [intOf]

end Go.Proofs.YbulkbuxwDoor
