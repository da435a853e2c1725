/-
  No cell of these rows narrows 'for every input' (looked for: loops, veiled, ifaces, maps, wideKeys, modest, calm, conditions, laid).
  DERIVED. THE GIVEN ROWS OF THIS SEAT. 3 by the template 'for every input the law returns true; each argument reads behind the call as it read before'; 0 by the template 'total and deterministic' (their statements: YbulkbuxiTotals.lean).
  GIVEN WITH THE SEED: the statements are not yours to turn. If you find one false, say at which input.
  Laid BY PROGRAM, IN A SANDBOX (cutbox-rows.mjs): the forced cells as the released guide's own fill.sh prints them over the translation 33ba3f0b9ae3a3f8… (all of the seat's roots in one cut). By AI agents, Wed Nov 11 2026. No macro, syntax, notation, axiom, sorry.
-/
import Derived.Test.YbulkbuxiChecked
import GoSem.Claim
import GoSem.ClaimJoined
import GoSem.ClaimMapViews
import Derived.JoinedTies
import Derived.KernelRfl
namespace Go.Proofs.Ybulkbuxi
/- THE CELL 'sum', in the pinned program and in every row, IS THE sha256 OF THE DUMP (.gsa) THAT YbulkbuxiProg.lean LOADS. Nothing in Lean hashes anything: it is a label: what it is worth is what the hold of that sum in a sandbox is worth. -/
noncomputable def Yba.pinned : Pinned := { name := "ybulkbuxi", sum := "33ba3f0b9ae3a3f8082b61f4362180f2987cc64eedede1b9d27622134b5dccc3", checked := Yba.checked }
namespace Rows
def none {H : Type} : Left H := { results := [], args := [] }

/-- 'octet.LawS3570BFirstMatch': WHATEVER THE INPUT: true; the input reads as it did. -/
def lawS3570BFirstMatchSpec : ChangeSpec := { name := "lawS3570BFirstMatch", fn := fun _ => fun
  | [d1, d2, d3] => { results := [.lit (.bool true)], args := [d1, d2, d3] }
  | _ => none }
def lawS3570BFirstMatchRow : OpenClaim := { program := "ybulkbuxi", sum := "33ba3f0b9ae3a3f8082b61f4362180f2987cc64eedede1b9d27622134b5dccc3", func := "example.com/octet/octet.LawS3570BFirstMatch", spec := "lawS3570BFirstMatch", plainKeys := false, apart := false }
def LawS3570BFirstMatchSaid : Prop := lawS3570BFirstMatchRow.holds Yba.pinned (OpenSpec.ofChange lawS3570BFirstMatchSpec)

/-- ITS FALSE NEIGHBOUR: 'it returns false'. Refute it at one input. -/
def lawS3570BFirstMatchWrong : ChangeSpec := { name := "lawS3570BFirstMatch", fn := fun _ => fun
  | [d1, d2, d3] => { results := [.lit (.bool false)], args := [d1, d2, d3] }
  | _ => none }
def LawS3570BFirstMatchWrongFalsely : Prop := lawS3570BFirstMatchRow.holds Yba.pinned (OpenSpec.ofChange lawS3570BFirstMatchWrong)

/-- 'octet.LawS3570CExact': WHATEVER THE INPUT: true; the input reads as it did. -/
def lawS3570CExactSpec : ChangeSpec := { name := "lawS3570CExact", fn := fun _ => fun
  | [d1, d2, d3, d4] => { results := [.lit (.bool true)], args := [d1, d2, d3, d4] }
  | _ => none }
def lawS3570CExactRow : OpenClaim := { program := "ybulkbuxi", sum := "33ba3f0b9ae3a3f8082b61f4362180f2987cc64eedede1b9d27622134b5dccc3", func := "example.com/octet/octet.LawS3570CExact", spec := "lawS3570CExact", plainKeys := false, apart := false }
def LawS3570CExactSaid : Prop := lawS3570CExactRow.holds Yba.pinned (OpenSpec.ofChange lawS3570CExactSpec)

/-- ITS FALSE NEIGHBOUR: 'it returns false'. Refute it at one input. -/
def lawS3570CExactWrong : ChangeSpec := { name := "lawS3570CExact", fn := fun _ => fun
  | [d1, d2, d3, d4] => { results := [.lit (.bool false)], args := [d1, d2, d3, d4] }
  | _ => none }
def LawS3570CExactWrongFalsely : Prop := lawS3570CExactRow.holds Yba.pinned (OpenSpec.ofChange lawS3570CExactWrong)

/-- 'octet.LawS3570CCount': WHATEVER THE INPUT: true; the input reads as it did. -/
def lawS3570CCountSpec : ChangeSpec := { name := "lawS3570CCount", fn := fun _ => fun
  | [d1, d2, d3, d4] => { results := [.lit (.bool true)], args := [d1, d2, d3, d4] }
  | _ => none }
def lawS3570CCountRow : OpenClaim := { program := "ybulkbuxi", sum := "33ba3f0b9ae3a3f8082b61f4362180f2987cc64eedede1b9d27622134b5dccc3", func := "example.com/octet/octet.LawS3570CCount", spec := "lawS3570CCount", plainKeys := false, apart := false }
def LawS3570CCountSaid : Prop := lawS3570CCountRow.holds Yba.pinned (OpenSpec.ofChange lawS3570CCountSpec)

/-- ITS FALSE NEIGHBOUR: 'it returns false'. Refute it at one input. -/
def lawS3570CCountWrong : ChangeSpec := { name := "lawS3570CCount", fn := fun _ => fun
  | [d1, d2, d3, d4] => { results := [.lit (.bool false)], args := [d1, d2, d3, d4] }
  | _ => none }
def LawS3570CCountWrongFalsely : Prop := lawS3570CCountRow.holds Yba.pinned (OpenSpec.ofChange lawS3570CCountWrong)

end Rows
end Go.Proofs.Ybulkbuxi
