/-
  The walk of sameGraph over two graphs of one length.
-/
import Derived.Test.YbulkbuxwDoorBGMid
import Derived.Test.YbulkbuxwDoorBGText
import Derived.Test.YbulkbuxwDoorBGIndex
import Derived.WalkSmall
import Derived.BigQuiet
import Derived.Deep.QuietTactic
import Derived.Deep.AppendLies
import Derived.Maps.AppendAt
namespace Go.Proofs.YbulkbuxwDoor
open Go.RowKit
set_option linter.unusedVariables false

theorem make82 (n : Nat) (w : World) (hn : n ≤ 256) : (Instr.makeMap 82 (some (.int .i64 (n : Int)))).run Ybad.prog w = .ok (.map (some w.heap.size)) (w.alloc (.map #[] 0)) := by
  kernel_rfl

theorem own_slice {w : World} {B m : Nat} {V : Value} {vs : List Value} (h : w.ownsRow B 24 1 V m vs) : ∃ a c, V = .slice a m c := by
  rcases h.2 with ⟨h1, h2⟩ | ⟨g, cap, cur, h1, _⟩
  · exact ⟨none, 0, by rw [h1, h2]⟩
  · exact ⟨_, _, h1⟩
theorem own_some {w : World} {B m c : Nat} {a : Option Addr} {vs : List Value} (h : w.ownsRow B 24 1 (.slice a m c) m vs) (hm : 0 < m) : ∃ g, a = some ⟨g, 0, none⟩ := by
  rcases h.2 with ⟨h1, h2⟩ | ⟨g, cap, cur, h1, _⟩
  · omega
  · simp only [Value.slice.injEq] at h1
    exact ⟨g, h1.1⟩
/-- What IndexFunc asks of the row. -/
theorem index_row {F : Nat} {w w1 : World} {B m c : Nat} {a : Option Addr} {vs : List Value} {es : List (List Norm)} (h : w1.ownsRow B 24 1 (.slice a m c) m vs) (hv : ∀ (j : Nat) (d : List Norm), es[j]? = some d → ∃ u, vs[j]? = some u ∧ Tree w 0 F u d) (hm : es.length = m) (bel : Below w.heap.size w w1) :
    ∀ j, j < m → ∃ g v, a = some ⟨g, 0, none⟩ ∧ w1.cell? ⟨g, j, none⟩ = some v ∧ Tree w1 0 F v (es.getD j []) := by
  intro j hj
  obtain ⟨g, rfl⟩ := own_some h (by omega)
  have he : es[j]? = some (es.getD j []) := by
    rw [List.getD_eq_getElem?_getD, List.getElem?_eq_getElem (by omega)]; rfl
  obtain ⟨u, h1, h2⟩ := hv j _ he
  have := h.cells (g := g) rfl j _ h1
  have hadd : (⟨g, 0, none⟩ : Addr).add j = ⟨g, j, none⟩ := by unfold Addr.add; split <;> simp_all
  rw [hadd] at this
  exact ⟨g, u, rfl, this, h2.below bel⟩
theorem row_one {F : Nat} {w w1 : World} {B m : Nat} {v : Value} {vs : List Value} {es : List (List Norm)} (h : w1.ownsRow B 24 1 v m vs) (hv : ∀ (j : Nat) (d : List Norm), es[j]? = some d → ∃ u, vs[j]? = some u ∧ Tree w 0 F u d) (hm : es.length = m) :
    ∀ u ∈ vs, u.oneCell' = true := by
  intro u hu
  obtain ⟨j, hj⟩ := List.getElem?_of_mem hu
  have hjl := (List.getElem?_eq_some_iff.1 hj).1
  have hl := h.1
  obtain ⟨u', h1, h2⟩ := hv j _ (List.getElem?_eq_getElem (by omega))
  rw [hj] at h1
  injection h1 with h1
  subst h1
  obtain ⟨t, p, rfl⟩ := h2.shape
  rfl
theorem drop_at {α : Type} {l : List α} {i : Nat} {x : α} (h : l[i]? = some x) : l.drop i = x :: l.drop (i + 1) := by
  have hi := (List.getElem?_eq_some_iff.1 h)
  obtain ⟨hl, hx⟩ := hi
  rw [List.drop_eq_getElem_cons hl, hx]

set_option maxHeartbeats 4000000 in
set_option maxRecDepth 100000 in
theorem graph_walk (ba bb B B' F n : Nat) (a a' : Option Addr) (cap cap' : Nat) (r c r' c' : Value) (vs vs' : List Value) (xs ys : List Ent) (w : World) (hx : xs.length = n) (hy : ys.length = n) (hn : n ≤ 256)
    (hA : w.heap[ba]? = some (.cells #[r, c, .slice a n cap] 45 (0, 0))) (hB : w.heap[bb]? = some (.cells #[r', c', .slice a' n cap'] 45 (0, 0)))
    (oA : w.ownsRow B 46 1 (.slice a n cap) n vs) (oB : w.ownsRow B' 46 1 (.slice a' n cap') n vs')
    (eA : ∀ (j : Nat) (x : Ent), xs[j]? = some x → ∃ v, vs[j]? = some v ∧ EntryAt F w v x) (eB : ∀ (j : Nat) (x : Ent), ys[j]? = some x → ∃ v, vs'[j]? = some v ∧ EntryAt F w v x)
    (sA : ∀ x ∈ xs, x.1.size ≤ 140737488351232) (sB : ∀ x ∈ ys, x.1.size ≤ 140737488351232) :
    Calls Ybad.prog 13 #[.pointer (some ⟨ba, 0, none⟩), .pointer (some ⟨bb, 0, none⟩)] w fun r w' => ∃ x, r = .returned (.bool x) ∧ (x = true ↔ xs.Perm ys) ∧ Below w.heap.size w w' := by
  have ca : w.cell? ⟨ba, 2, none⟩ = some (.slice a n cap) := by simp [World.cell?, hA]
  have cb : w.cell? ⟨bb, 2, none⟩ = some (.slice a' n cap') := by simp [World.cell?, hB]
  have HA : Hid (w.ownsRow B 46 1 (.slice a n cap) n vs ∧ ∀ (j : Nat) (x : Ent), xs[j]? = some x → ∃ v, vs[j]? = some v ∧ EntryAt F w v x) := ⟨oA, eA⟩
  have HB : Hid (w.ownsRow B' 46 1 (.slice a' n cap') n vs' ∧ ∀ (j : Nat) (x : Ent), ys[j]? = some x → ∃ v, vs'[j]? = some v ∧ EntryAt F w v x) := ⟨oB, eB⟩
  have HS : Hid ((∀ x ∈ xs, x.1.size ≤ 140737488351232) ∧ ∀ x ∈ ys, x.1.size ≤ 140737488351232) := ⟨sA, sB⟩
  have HX : Hid (xs.length = n ∧ ys.length = n) := ⟨hx, hy⟩
  have hba := lt_of_block hA
  have hbb := lt_of_block hB
  clear oA oB eA eB sA sB hx hy hA hB
  go_enter Ybad.func13, Ybad.ntmps13
  go_wp2_with fail
  go_quiet (fail)
  have hmk := make82 n (w.drewN nq) hn
  have cb1 : ((w.drewN nq).alloc (.map #[] 0)).cell? ⟨bb, 2, none⟩ = some (.slice a' n cap') := ((mid_start F w nq).bel.cell (p := ⟨bb, 2, none⟩) hbb).trans cb
  go_wp2_with fail
  clear hmk cb1
  go_loopw [36] (fun j wr => ∃ k : Nat, k ≤ n ∧ j = .int .i64 k ∧ ∃ M, Mid F w wr k (ys.take k) M) (fun j _ => n - (intOf j).toNat)
  case atStart => exact ⟨0, Nat.zero_le _, rfl, _, mid_start F w nq⟩
  case round =>
    obtain ⟨k, hk, rfl, M, hmid⟩ := hrel
    by_cases hlt : k < n
    · obtain ⟨⟨s, e⟩, hxk⟩ : ∃ x, ys[k]? = some x := ⟨_, List.getElem?_eq_getElem (by rw [HX.out.2]; exact hlt)⟩
      obtain ⟨g, p, q, r0, c0, r1, c1, ev, rfl, hg, cg, hp, hq, tev⟩ := row_entry HB.out.1 HB.out.2 hlt hxk
      have hsz : s.size ≤ 140737488351232 := HS.out.2 (s, e) (List.mem_of_getElem? hxk)
      have cg' : wr.cell? ⟨g, k, none⟩ = some (.pointer (some ⟨p, 0, none⟩)) := (hmid.bel.cell (p := ⟨g, k, none⟩) hg).trans cg
      have hp' := (hmid.bel.block p (lt_of_block hp)).trans hp
      have hq' := (hmid.bel.block q (lt_of_block hq)).trans hq
      have cp : wr.cell? ⟨p, 2, none⟩ = some (.iface 47 (.pointer (some ⟨q, 0, none⟩))) := by simp [World.cell?, hp']
      have HT := text_any q _ _ s wr hq' hsz
      have ht : Hid (Calls Ybad.prog 14 #[.slice none 0 0, .iface 47 (.pointer (some ⟨q, 0, none⟩))] wr fun r w' => TextPost wr s r w') := HT
      clear HT hq' hp'
      go_wp2_with fail
      refine ht.out.mono ?_
      rintro r w1 ⟨ta, tc, rfl, hcv, bel1, siz1⟩
      have mid1 := hmid.new siz1 bel1
      obtain ⟨u, pe, rfl⟩ := tev.shape
      have hp1 := (mid1.bel.block p (lt_of_block hp)).trans hp
      have ce : w1.cell? ⟨p, 3, none⟩ = some (.iface u (.pointer (some ⟨pe, 0, none⟩))) := by simp [World.cell?, hp1]
      have hpl := lt_of_block hp1
      obtain ⟨vs0, own0, hvs0⟩ := mid1.rows s
      have hml : (grp (ys.take k) s).length ≤ 256 := by
        have h1 := grp_le (ys.take k) s
        have h2 : (ys.take k).length ≤ n := by rw [List.length_take]; omega
        omega
      obtain ⟨V, hV⟩ : ∃ V, Hid (M s = V) := ⟨_, rfl⟩
      obtain ⟨m, hm⟩ : ∃ m, Hid ((grp (ys.take k) s).length = m) := ⟨_, rfl⟩
      rw [hV.out, hm.out] at own0
      rw [hm.out] at hml
      have hsm : s.size ≤ maxLen := by unfold maxLen; omega
      have map2 := mid1.map.same (w' := (w1.alloc (.cells #[.iface u (.pointer (some ⟨pe, 0, none⟩))] 24)).drew) (Below.heap_alloc _ _ _ mid1.size)
      have hl1 : (Instr.lookup 82 (.map (some w.heap.size)) (.string s) false).run Ybad.prog w1.drew = .ok V w1.drew := by
        rw [← hV.out]
        exact (mid1.map.same (w' := w1.drew) rfl).lookup hsm
      have hl2 : (Instr.lookup 82 (.map (some w.heap.size)) (.string s) false).run Ybad.prog (w1.alloc (.cells #[.iface u (.pointer (some ⟨pe, 0, none⟩))] 24)).drew = .ok V (w1.alloc (.cells #[.iface u (.pointer (some ⟨pe, 0, none⟩))] 24)).drew := by
        rw [← hV.out]
        exact map2.lookup hsm
      obtain ⟨i0, hi, hz0, hz1, hz2⟩ := info_parts info24
      have hne : some w.heap.size ≠ V.ownBlock := fun e => own_ne own0 e.symm
      have HM : Hid (MapAt (w1.alloc (.cells #[.iface u (.pointer (some ⟨pe, 0, none⟩))] 24)).drew w.heap.size k M) := map2
      have HV0 : Hid (∀ (j : Nat) (d : List Norm), (grp (ys.take k) s)[j]? = some d → ∃ u, vs0[j]? = some u ∧ Tree w 0 F u d) := hvs0
      have hsw := mid1.size
      clear map2 hvs0 hp1 hp hq cg cg' cp bel1 siz1
      go_wp2_with fail
      clear hcv
      go_region_law ((refine step_append_lies _ (by rfl) _ _ 76 (by rfl) (w.heap.size + 1) 24 i0 _ 1 16 Ybad.underlying76 hi hz0 hz1 hz2 rfl (by omega) V m vs0 (by rfl) ((own0.alloc _).drew) ⟨w1.heap.size, 0, none⟩ 1 1 [.iface u (.pointer (some ⟨pe, 0, none⟩))] (by rfl) (by rfl) (cell_one_new w1 _ 24) (by intro x hx; simp at hx; subst hx; rfl) (by omega) (by unfold maxLen; omega) (by omega) (by simp; omega) (w1.heap.size + 1) (by simp) ?_; intro gg cp2 w2 hown2 hgrow hat hlt2; obtain ⟨w3, hup, map3, grow3⟩ := (HM.out.kept hgrow hne).update (by unfold maxLen; omega) hsm (.slice (some ⟨gg, 0, none⟩) (m + 1) cp2)))
      all_goals
        have MID : Mid F w w3 (k + 1) (ys.take k ++ [(s, e)]) _ := mid1.push (n := m) hm.out.symm HV0.out (by have := own0.1; omega) tev (by rw [hV.out]; exact hgrow) hown2 (by rw [hV.out]; exact hat) map3 grow3
        have htk : ys.take (k + 1) = ys.take k ++ [(s, e)] := by rw [List.take_add_one, hxk]; rfl
        rw [← htk] at MID
        clear htk hown2 hgrow hat hlt2 hup map3 grow3 HV0 HM hl1 hl2 own0 hne hi hz0 hz1 hz2 mid1 ht ce
        go_wp2_with fail
        go_roundw
        case rel => exact ⟨k + 1, by omega, by go_num, _, MID⟩
        case measure => simp [intOf]; omega
    · obtain rfl : k = n := by omega
      rw [List.take_of_length_le (Nat.le_of_eq HX.out.2)] at hmid
      have ca' : wr.cell? ⟨ba, 2, none⟩ = some (.slice a k cap) := (hmid.bel.cell (p := ⟨ba, 2, none⟩) hba).trans ca
      go_wp2_with fail
      go_loopw [63] (fun j wx => ∃ i : Nat, i ≤ k ∧ j = .int .i64 i ∧ ∃ M bs, Mid F w wx (k + i) bs M ∧ Hid (((xs.drop i).Perm bs ↔ xs.Perm ys) ∧ bs.length + i = k)) (fun j _ => k - (intOf j).toNat)
      case atStart => exact ⟨0, Nat.zero_le _, rfl, _, ys, hmid, by simp, HX.out.2⟩
      case round =>
        clear ca' hmid
        obtain ⟨i, hi, rfl, M, bs, hmid, hbs⟩ := hrel
        by_cases hlt2 : i < k
        · obtain ⟨⟨s, e⟩, hxi⟩ : ∃ x, xs[i]? = some x := ⟨_, List.getElem?_eq_getElem (by rw [HX.out.1]; exact hlt2)⟩
          obtain ⟨g, p, q, r0, c0, r1, c1, ev, rfl, hg, cg, hp, hq, tev⟩ := row_entry HA.out.1 HA.out.2 hlt2 hxi
          have hsz : s.size ≤ 140737488351232 := HS.out.1 (s, e) (List.mem_of_getElem? hxi)
          have cg' : wr.cell? ⟨g, i, none⟩ = some (.pointer (some ⟨p, 0, none⟩)) := (hmid.bel.cell (p := ⟨g, i, none⟩) hg).trans cg
          have hsw := hmid.size
          have belb : Below wr.heap.size wr (wr.alloc (.cells #[.pointer (some ⟨p, 0, none⟩)] 46)) := (Below.refl _ wr).alloc (Nat.le_refl _) _
          have mid0 := hmid.new (w' := wr.alloc (.cells #[.pointer (some ⟨p, 0, none⟩)] 46)) (by simp) belb
          have hp0 := (mid0.bel.block p (lt_of_block hp)).trans hp
          have hq0 := (mid0.bel.block q (lt_of_block hq)).trans hq
          have cp : (wr.alloc (.cells #[.pointer (some ⟨p, 0, none⟩)] 46)).cell? ⟨p, 2, none⟩ = some (.iface 47 (.pointer (some ⟨q, 0, none⟩))) := by simp only [World.cell?, hp0]; rfl
          have HT := text_any q _ _ s _ hq0 hsz
          have ht : Hid (Calls Ybad.prog 14 #[.slice none 0 0, .iface 47 (.pointer (some ⟨q, 0, none⟩))] (wr.alloc (.cells #[.pointer (some ⟨p, 0, none⟩)] 46)) fun r w' => TextPost (wr.alloc (.cells #[.pointer (some ⟨p, 0, none⟩)] 46)) s r w') := HT
          clear HT hq0 hp0
          go_wp2_with fail
          refine ht.out.mono ?_
          rintro r w1 ⟨ta, tc, rfl, hcv, bel1, siz1⟩
          have mid1 := mid0.new siz1 bel1
          obtain ⟨bx, hbx⟩ : ∃ bx, Hid (wr.heap.size = bx) := ⟨_, rfl⟩
          have hbox : w1.heap[wr.heap.size]? = some (.cells #[.pointer (some ⟨p, 0, none⟩)] 46 (0, 0)) := (bel1.block wr.heap.size (by simp)).trans (heap_alloc_new wr _)
          have hp1 := (mid1.bel.block p (lt_of_block hp)).trans hp
          have tev1 := tev.below mid1.bel
          obtain ⟨u, pe, rfl⟩ := tev.shape
          obtain ⟨vs0, own0, hvs0⟩ := mid1.rows s
          have hml : (grp bs s).length ≤ 256 := by
            have h1 := grp_le bs s
            have h2 := hbs.out.2
            omega
          obtain ⟨V, hV⟩ : ∃ V, Hid (M s = V) := ⟨_, rfl⟩
          obtain ⟨m, hm⟩ : ∃ m, Hid ((grp bs s).length = m) := ⟨_, rfl⟩
          rw [hV.out, hm.out] at own0
          rw [hm.out] at hml
          have hsm : s.size ≤ maxLen := by unfold maxLen; omega
          obtain ⟨a0, cp0, rfl⟩ := own_slice own0
          have hl1 : (Instr.lookup 82 (.map (some w.heap.size)) (.string s) false).run Ybad.prog w1 = .ok (.slice a0 m cp0) w1 := by
            rw [← hV.out]
            exact mid1.map.lookup hsm
          have HI := index_any a0 m cp0 wr.heap.size p F _ _ _ _ (grp bs s) e w1 (by omega) hbox hp1 (index_row own0 hvs0 hm.out mid1.bel) tev1
          have hI : Hid (Calls Ybad.prog 15 #[.slice a0 m cp0, .func (.func 16) #[] #[.pointer (some ⟨wr.heap.size, 0, none⟩)]] w1 fun r w' => IndexPost w1 (grp bs s) e m r w') := HI
          have HV0 : Hid (∀ (j : Nat) (d : List Norm), (grp bs s)[j]? = some d → ∃ u, vs0[j]? = some u ∧ Tree w 0 F u d) := hvs0
          clear HI hvs0 hbox hp1 tev1 hp hq cg cg' cp bel1 siz1 ht belb mid0
          go_wp2_with fail
          clear hcv hl1
          refine hI.out.mono ?_
          rintro r w2 ⟨⟨md, rfl⟩, ⟨rfl, hall⟩ | ⟨kk, hkk, rfl, hfound, hfirst⟩⟩
          · have HALL : Hid (∀ j, j < m → (grp bs s).getD j [] ≠ e) := hall
            have BEL := mid1.bel
            clear hI hall own0 HV0 mid1 hmid
            go_wp2_with fail
            go_ret
            refine ⟨false, rfl, ?_, below_drewN BEL md⟩
            rw [← hbs.out.1, drop_at hxi]
            refine ⟨fun h => by simp at h, fun h => absurd h (pair_none (s, e) _ bs (fun j hj => ?_))⟩
            have hjl := (List.getElem?_eq_some_iff.1 hj).1
            exact HALL.out j (by rw [← hm.out]; exact hjl) (by rw [List.getD_eq_getElem?_getD, hj]; rfl)
          · have HF : Hid ((grp bs s).getD kk [] = e ∧ ∀ j, j < kk → (grp bs s).getD j [] ≠ e) := ⟨hfound, hfirst⟩
            clear hfound hfirst hI
            obtain ⟨g0, rfl⟩ := own_some own0 (by omega)
            have HD := delete_any g0 m cp0 kk (w.heap.size + 1) vs0 (w1.drewN md) (by omega) hkk own0 (row_one own0 HV0.out hm.out)
            have hD : Hid (Calls Ybad.prog 17 #[.slice (some ⟨g0, 0, none⟩) m cp0, .int .i64 kk, .int .i64 ((kk : Int) + 1)] (w1.drewN md) fun r w' => DelPost (w1.drewN md) (w.heap.size + 1) g0 m cp0 kk vs0 r w') := HD
            have hne : some w.heap.size ≠ some g0 := fun e => own_ne own0 e.symm
            have midd : Mid F w (w1.drewN md) (k + i) bs M := mid1.new (Nat.le_refl _) (below_drewN (Below.refl _ _) md)
            clear HD own0 mid1 hmid
            go_wp2_with fail
            refine hD.out.mono ?_
            rintro r w3 ⟨rfl, own3, grow3⟩
            obtain ⟨w4, hup, map4, grow4⟩ := (midd.map.kept grow3 hne).update (by unfold maxLen; omega) hsm (.slice (some ⟨g0, 0, none⟩) (m - 1) cp0)
            have hk1 : (grp bs s)[kk]? = some e := by
              rw [← HF.out.1, List.getD_eq_getElem?_getD, List.getElem?_eq_getElem (by rw [hm.out]; exact hkk)]; rfl
            have MID : Mid F w w4 (k + i + 1) (del1 (s, e) bs) _ := midd.pop (cap := cp0) HV0.out hk1 (fun j hj h => HF.out.2 j hj (by rw [List.getD_eq_getElem?_getD, h]; rfl)) (by rw [hV.out]; rfl) (by rw [hm.out]; exact own3) grow3 (by rw [hm.out]; exact map4) grow4
            have hstep : ((xs.drop (i + 1)).Perm (del1 (s, e) bs) ↔ xs.Perm ys) ∧ (del1 (s, e) bs).length + (i + 1) = k := by
              refine ⟨?_, ?_⟩
              · rw [← hbs.out.1, drop_at hxi]
                exact (pair_step (s, e) _ bs kk hk1).symm
              · have h1 := del1_length (s, e) bs ((mem_grp bs s e).1 (List.mem_of_getElem? hk1))
                have h2 := hbs.out.2
                omega
            have HST : Hid (((xs.drop (i + 1)).Perm (del1 (s, e) bs) ↔ xs.Perm ys) ∧ (del1 (s, e) bs).length + (i + 1) = k) := hstep
            clear hstep hk1 map4 grow4 own3 grow3 midd hD HV0 HF hbs hV hm
            go_wp2_with fail
            go_roundw
            case rel => exact ⟨i + 1, by omega, by go_num, _, _, MID, HST⟩
            case measure => simp [intOf]; omega
        · obtain rfl : i = k := by omega
          have BEL := hmid.bel
          clear hmid
          go_wp2_with fail
          go_ret
          refine ⟨true, rfl, ?_, BEL⟩
          have h1 := hbs.out.1
          have h2 : bs = [] := List.eq_nil_of_length_eq_zero (by have := hbs.out.2; omega)
          rw [← h1, h2, List.drop_of_length_le (Nat.le_of_eq HX.out.1)]
          simp
end Go.Proofs.YbulkbuxwDoor
