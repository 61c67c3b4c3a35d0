/-
  DERIVED. GIVEN WITH THE SEED: THE CARDS: each row of YbulkctcuFmtRows.lean that lists a variable, with what it lists TIED to the program's text (the seventh form; the later family's looks); each row that meets fmt, with fmt's text TOLD by the authors' own Lean function (tested against real Go, not proved from fmt's source: count such statements apart). THE CARD IS WHAT COUNTS. Prove the row's statement (the work); the ties are given (YbulkctcuFmtTie.lean); close each card by the builder's one call (the guide's Derived/Test/ToyasCard.lean, 'card_holds'). Laid BY PROGRAM, IN A SANDBOX (cutbox-door.mjs). By AI agents, Wed Nov 11 2026. No macro, syntax, notation, axiom, sorry.
-/
import Derived.Test.YbulkctcuFmtRows
import GoSem.ClaimSeven
namespace Go.Proofs.YbulkctcuFmt
namespace Rows

/-- THE TOLD CARD OF 'forkstress.LawS4739AModel'. -/
def lawS4739AModelCard : Claim7 := { stood := { row := lawS4739AModelRow, standIns := [], harness := (true, "56a874fef6c1c339dae0726f3e45cfaaddff15a8570cc1969ddf03730f8d39a0"), looks := true }, told := true, goes := false }
def LawS4739AModelToldSaid : Prop := Claim7.holds Ybaf.pinned (.plain (OpenSpec.ofChange lawS4739AModelSpec)) lawS4739AModelCard
/-- ITS FALSE NEIGHBOUR. Refute it at one input. -/
def LawS4739AModelToldWrongFalsely : Prop := Claim7.holds Ybaf.pinned (.plain (OpenSpec.ofChange lawS4739AModelWrong)) lawS4739AModelCard

/-- THE TOLD CARD OF 'forkstress.LawS4739AValid'. -/
def lawS4739AValidCard : Claim7 := { stood := { row := lawS4739AValidRow, standIns := [], harness := (true, "56a874fef6c1c339dae0726f3e45cfaaddff15a8570cc1969ddf03730f8d39a0"), looks := true }, told := true, goes := false }
def LawS4739AValidToldSaid : Prop := Claim7.holds Ybaf.pinned (.plain (OpenSpec.ofChange lawS4739AValidSpec)) lawS4739AValidCard
/-- ITS FALSE NEIGHBOUR. Refute it at one input. -/
def LawS4739AValidToldWrongFalsely : Prop := Claim7.holds Ybaf.pinned (.plain (OpenSpec.ofChange lawS4739AValidWrong)) lawS4739AValidCard
end Rows
end Go.Proofs.YbulkctcuFmt
