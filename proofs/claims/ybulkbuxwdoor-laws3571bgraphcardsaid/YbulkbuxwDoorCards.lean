/-
  DERIVED. GIVEN WITH THE SEED: THE CARDS: each row of YbulkbuxwDoorRows.lean that lists a variable, with what it lists TIED to the program's text (the seventh form; the later family's looks); each row that meets fmt, with fmt's text TOLD by the authors' own Lean function (tested against real Go, not proved from fmt's source: count such statements apart). THE CARD IS WHAT COUNTS. Prove the row's statement (the work); the ties are given (YbulkbuxwDoorTie.lean); close each card by the builder's one call (the guide's Derived/Test/ToyasCard.lean, 'card_holds'). Laid BY PROGRAM, IN A SANDBOX (cutbox-door.mjs). By AI agents, Wed Nov 11 2026. No macro, syntax, notation, axiom, sorry.
-/
import Derived.Test.YbulkbuxwDoorRows
import GoSem.ClaimSeven
namespace Go.Proofs.YbulkbuxwDoor
namespace Rows

/-- THE TIED CARD OF 'knotwork.LawS3571BModel'. -/
def lawS3571BModelCard : Claim7 := { stood := { row := lawS3571BModelRow, standIns := [], harness := (true, "353e2b3ec8ecd7293db9f4600c590d0554436afb14c97bd23ca74cb4775ed0d5"), looks := true }, kinds := [], alts := [], laidByText := true, laidKinds := [.data, .data, .data], laidTests := true, laidLooks := .later }
def LawS3571BModelCardSaid : Prop := Claim7.holds Ybad.pinned (.plain (OpenSpec.ofChange lawS3571BModelSpec)) lawS3571BModelCard

/-- THE TIED CARD OF 'knotwork.LawS3571BMutant'. -/
def lawS3571BMutantCard : Claim7 := { stood := { row := lawS3571BMutantRow, standIns := [], harness := (true, "353e2b3ec8ecd7293db9f4600c590d0554436afb14c97bd23ca74cb4775ed0d5"), looks := true }, kinds := [], alts := [], laidByText := true, laidKinds := [.data, .data, .data], laidTests := true, laidLooks := .later }
def LawS3571BMutantCardSaid : Prop := Claim7.holds Ybad.pinned (.plain (OpenSpec.ofChange lawS3571BMutantSpec)) lawS3571BMutantCard

/-- THE TIED CARD OF 'knotwork.LawS3571BGraph'. -/
def lawS3571BGraphCard : Claim7 := { stood := { row := lawS3571BGraphRow, standIns := [], harness := (true, "353e2b3ec8ecd7293db9f4600c590d0554436afb14c97bd23ca74cb4775ed0d5"), looks := true }, kinds := [], alts := [], laidByText := true, laidKinds := [.data, .data, .data], laidTests := true, laidLooks := .later }
def LawS3571BGraphCardSaid : Prop := Claim7.holds Ybad.pinned (.plain (OpenSpec.ofChange lawS3571BGraphSpec)) lawS3571BGraphCard

/-- THE TIED CARD OF 'knotwork.LawS3571CExact'. -/
def lawS3571CExactCard : Claim7 := { stood := { row := lawS3571CExactRow, standIns := [], harness := (true, "353e2b3ec8ecd7293db9f4600c590d0554436afb14c97bd23ca74cb4775ed0d5"), looks := true }, kinds := [], alts := [], laidByText := true, laidKinds := [.called], laidTests := true, laidLooks := .later }
def LawS3571CExactCardSaid : Prop := Claim7.holds Ybad.pinned (.plain (OpenSpec.ofChange lawS3571CExactSpec)) lawS3571CExactCard

/-- THE TIED CARD OF 'knotwork.LawS3571CRange'. -/
def lawS3571CRangeCard : Claim7 := { stood := { row := lawS3571CRangeRow, standIns := [], harness := (true, "353e2b3ec8ecd7293db9f4600c590d0554436afb14c97bd23ca74cb4775ed0d5"), looks := true }, kinds := [], alts := [], laidByText := true, laidKinds := [.called], laidTests := true, laidLooks := .later }
def LawS3571CRangeCardSaid : Prop := Claim7.holds Ybad.pinned (.plain (OpenSpec.ofChange lawS3571CRangeSpec)) lawS3571CRangeCard
end Rows
end Go.Proofs.YbulkbuxwDoor
