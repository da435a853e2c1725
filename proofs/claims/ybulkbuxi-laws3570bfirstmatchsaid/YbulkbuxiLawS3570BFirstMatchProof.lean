/-
  THE ROW's STEP AND THE STATEMENT for LawS3570BFirstMatch: after the guide's shell for slices, the slice here of strings.
-/
import Derived.Test.YbulkbuxiRows
import Derived.WalkKit
import Derived.ProofKit
import Derived.OpenShut
import Derived.ShutString
import Derived.SliceStrings
import Derived.ChangeOld
import Derived.Below
import Derived.Test.YbulkbuxiFirstWalk
import Derived.Test.YbulkbuxiFirstEdge
namespace Go.Proofs.Ybulkbuxi.lawS3570BFirstMatch
open Go.ChangeShapes Go.WideShapes Go.ChangeAt Go.RowKit
open Go.ChangeMaps (open_string shut_string)
set_option linter.unusedVariables false

theorem own : ownKnob Yba.prog.godebug = none := by kernel_rfl
theorem laidOut : laidOutB Yba.prog = true := by kernel_rfl

/-- The slice of texts as the walks take it: it is empty, or its cells hold the strings T. -/
def IsTexts (w : World) (a : Option Addr) (len : Nat) (T : Nat → ByteArray) : Prop :=
  len = 0 ∨ ∃ b off, a = some ⟨b, off, none⟩ ∧ ∀ i, i < len → w.cell? ⟨b, off + i, none⟩ = some (.string (T i))

theorem walk (a : Option Addr) (len cap : Nat) (T : Nat → ByteArray) (q : ByteArray) (pk : Int) (w : World) (w0 : IsTexts w a len T) (w2 : (Lit.int .u8 pk).wf = true) :
    Calls Yba.prog 3 #[.slice a len cap, .string q, .int .u8 pk] w fun e w' => e = .returned (.bool true) ∧ Below w.heap.size w w' := by
  obtain ⟨p0, p1⟩ := bounds_u8 w2
  obtain ⟨p, rfl⟩ := Int.eq_ofNat_of_zero_le p0
  by_cases hl : 1024 < len
  · exact first_long a len cap q p w hl
  by_cases h0 : len = 0
  · subst h0
    exact first_none a cap q p w (by omega)
  rcases w0 with h | ⟨b, off, rfl, hc⟩
  · exact absurd h h0
  cases hp : ((p : Int) % 2 == 0)
  · exact first_walk_odd b off len cap T q q p w (by omega) (by omega) (by omega) hc hp rfl
  · exact first_walk_even b off len cap T q (T (p / 2 % len)) p w (by omega) (by omega) (by omega) hc hp rfl

set_option maxRecDepth 100000 in
theorem lifted (os : Os) (started : os.Started) (H : Type) (enc : TypeId × Value → H) :
    ReturnsInHanded {} Yba.checked os 3 .any (Rows.lawS3570BFirstMatchSpec.pre6 enc Yba.prog Yba.f3 Rows.lawS3570BFirstMatchRow.domain false) (Rows.lawS3570BFirstMatchSpec.post enc Yba.prog Yba.f3 false true false false) := by
  refine returnsInHanded_of_change (C := Yba.checked) own started (by kernel_rfl) Yba.func3
    (ChangeSpec.witness6 (enc := enc) (C := Yba.checked) false ⟨#[], #[.slice none 0 0, .string ⟨#[]⟩, .int .u8 0], []⟩ 8 (by kernel_rfl) (by kernel_rfl) (by kernel_rfl) (by kernel_rfl)) ?_
  intro W base args ds gs before hval0 hW hcnd _
  have hval : ∀ (j : Nat) t v, Yba.f3.params[j]? = some t → args[j]? = some v → Value.okWide Yba.prog W .any base t v := hval0
  have hW' := hW
  obtain ⟨p, q, hA0, hV, rfl, hfz, hnd⟩ := hW
  have hA : DataW.TrodAll enc Yba.prog W 0 (fun _ => true) true Yba.f3.params.toList args.toList ds p := hA0
  rw [Yba.params3] at hA hval
  obtain ⟨v0, vs0, d0, ds0, p0, q0, hargs, rfl, rfl, h0, r0⟩ := trodAll_cons hA
  obtain ⟨v1, vs1, d1, ds1, p1, q1, rfl, rfl, rfl, h1, r1⟩ := trodAll_cons r0
  obtain ⟨v2, vs2, d2, ds2, p2, q2, rfl, rfl, rfl, h2, r2⟩ := trodAll_cons r1
  obtain ⟨rfl, rfl, rfl⟩ := trodAll_nil r2
  obtain rfl : args = #[v0, v1, v2] := by cases args; simp_all
  obtain ⟨rfl, rfl⟩ := trodVars_none hV
  obtain ⟨a0, len0, cap0, rfl⟩ := okWide_slice Yba.underlying22 (hval 0 22 v0 rfl rfl)
  have k0 := h0
  have lt0 : ∀ x ∈ p0, x.block < W.heap.size := by obtain ⟨m, hm⟩ := k0; exact DataW.trod_lt m _ _ _ hm
  obtain ⟨T, w0⟩ : ∃ T, IsTexts W a0 len0 T := by
    obtain ⟨fuel, hf⟩ := h0
    rcases open_strings Yba.underlying22 Yba.underlying9 (by kernel_rfl) hf with ⟨hcs, _⟩ | ⟨x, l, c, ss, hcs, _, hl, hm, hz, _, hcell, hws⟩
    · simp [Value.cells] at hcs
      obtain ⟨rfl, rfl, rfl⟩ := hcs
      exact ⟨fun _ => ByteArray.empty, .inl rfl⟩
    · simp [Value.cells] at hcs
      obtain ⟨rfl, rfl, rfl⟩ := hcs
      by_cases hl0 : len0 = 0
      · exact ⟨fun _ => ByteArray.empty, .inl hl0⟩
      have hlen : len0 ≤ ss.length := by
        rw [hz]
        simpa using hl
      obtain ⟨b, off, spot⟩ := x
      have hspot : spot = none := by simpa [Addr.add] using World.cell?_spot (hcell 0 (by omega))
      subst hspot
      refine ⟨fun i => ss.getD i ByteArray.empty, .inr ⟨b, off, rfl, fun i hi => ?_⟩⟩
      have hci := hcell i (by omega)
      have hadd : Addr.add ⟨b, off, none⟩ i = ⟨b, off + i, none⟩ := by
        by_cases hi0 : i = 0
        · subst hi0; simp [Addr.add]
        · simp [Addr.add, hi0]
      rw [hadd] at hci
      exact hci
  obtain ⟨s, rfl, rfl, rfl, hs⟩ := open_string Yba.underlying9 (hval 1 9 v1 rfl rfl) h1
  obtain ⟨a2, rfl, rfl, rfl, w2⟩ := open_int Yba.underlying5 (hval 2 5 v2 rfl rfl) h2
  clear hA0 hval0
  refine (walk a0 len0 cap0 T s a2 W w0 w2).mono fun e W' ⟨he, bel⟩ => ?_
  subst he
  exact ⟨_, rfl, _, _, _, [], _, [], hW', trodAll_mk1 (shut_bool Yba.underlying4 _), (trodAll_cons_mk (Below.trod laidOut (by kernel_rfl) (of_decide_eq_true (by kernel_rfl)) k0 bel lt0) (trodAll_cons_mk (shut_string Yba.underlying9 hs) (trodAll_cons_mk (shut_int Yba.underlying5 w2) trodAll_mk0))), rfl, bel.frame _, fun h => by cases h⟩

theorem over : Rows.lawS3570BFirstMatchRow.holds Yba.pinned (OpenSpec.ofChange Rows.lawS3570BFirstMatchSpec) :=
  OpenClaim.holds_of_wide 3 Yba.f3 rfl rfl rfl rfl rfl rfl rfl ⟨rfl, rfl, rfl, rfl, rfl⟩ rfl rfl rfl rfl rfl (by kernel_rfl) Yba.func3 (by kernel_rfl)
    (of_decide_eq_true (by kernel_rfl)) (by unfold Func.isWrapper; first | (rw [if_pos (by decide +kernel)]; kernel_rfl) | (rw [if_neg (by decide +kernel)]; exact ⟨rfl, rfl⟩))
    (fun os started H enc _ => lifted os started H enc)

/-- THE STATEMENT -/
theorem proved : Rows.LawS3570BFirstMatchSaid := over
end Go.Proofs.Ybulkbuxi.lawS3570BFirstMatch
