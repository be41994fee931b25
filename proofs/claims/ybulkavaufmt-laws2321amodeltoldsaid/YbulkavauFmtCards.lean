/-
  DERIVED. GIVEN WITH THE SEED: THE CARDS: each row of YbulkavauFmtRows.lean that lists a variable, with what it lists TIED to the program's text (the seventh form; the later family's looks); each row that meets fmt, with fmt's text TOLD by the authors' own Lean function (tested against real Go, not proved from fmt's source: count such statements apart). THE CARD IS WHAT COUNTS. Prove the row's statement (the work); the ties are given (YbulkavauFmtTie.lean); close each card by the builder's one call (the guide's Derived/Test/ToyasCard.lean, 'card_holds'). Laid BY PROGRAM, IN A SANDBOX (cutbox-door.mjs). By AI agents, Wed Nov 11 2026. No macro, syntax, notation, axiom, sorry.
-/
import Derived.Test.YbulkavauFmtRows
import GoSem.ClaimSeven
namespace Go.Proofs.YbulkavauFmt
namespace Rows

/-- THE TOLD AND TIED CARD OF 'armillary.LawS2321AModel'. -/
def lawS2321AModelCard : Claim7 := { stood := { row := lawS2321AModelRow, standIns := [], harness := (true, "0b93f574bac11be9b759f1fe8c80d826ba97db0b8782e3ff01b92f6fe54996e5"), looks := true }, told := true, laidByText := true, laidKinds := [.called, .called], laidTests := true, laidLooks := .later, goes := false }
def LawS2321AModelToldSaid : Prop := Claim7.holds Ybaf.pinned (.plain (OpenSpec.ofChange lawS2321AModelSpec)) lawS2321AModelCard
/-- ITS FALSE NEIGHBOUR. Refute it at one input. -/
def LawS2321AModelToldWrongFalsely : Prop := Claim7.holds Ybaf.pinned (.plain (OpenSpec.ofChange lawS2321AModelWrong)) lawS2321AModelCard

/-- THE TOLD AND TIED CARD OF 'armillary.LawS2321AReform'. -/
def lawS2321AReformCard : Claim7 := { stood := { row := lawS2321AReformRow, standIns := [], harness := (true, "0b93f574bac11be9b759f1fe8c80d826ba97db0b8782e3ff01b92f6fe54996e5"), looks := true }, told := true, laidByText := true, laidKinds := [.called, .called], laidTests := true, laidLooks := .later, goes := false }
def LawS2321AReformToldSaid : Prop := Claim7.holds Ybaf.pinned (.plain (OpenSpec.ofChange lawS2321AReformSpec)) lawS2321AReformCard
/-- ITS FALSE NEIGHBOUR. Refute it at one input. -/
def LawS2321AReformToldWrongFalsely : Prop := Claim7.holds Ybaf.pinned (.plain (OpenSpec.ofChange lawS2321AReformWrong)) lawS2321AReformCard
end Rows
end Go.Proofs.YbulkavauFmt
