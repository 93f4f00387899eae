/-
  DERIVED. GIVEN WITH THE SEED: THE CARDS: each row of YbulkbvkgFmtRows.lean that lists a variable, with what it lists TIED to the program's text (the seventh form; the later family's looks); each row that meets fmt, with fmt's text TOLD by the authors' own Lean function (tested against real Go, not proved from fmt's source: count such statements apart). THE CARD IS WHAT COUNTS. Prove the row's statement (the work); the ties are given (YbulkbvkgFmtTie.lean); close each card by the builder's one call (the guide's Derived/Test/ToyasCard.lean, 'card_holds'). Laid BY PROGRAM, IN A SANDBOX (cutbox-door.mjs). By AI agents, Wed Nov 11 2026. No macro, syntax, notation, axiom, sorry.
-/
import Derived.Test.YbulkbvkgFmtRows
import GoSem.ClaimSeven
namespace Go.Proofs.YbulkbvkgFmt
namespace Rows

/-- THE TOLD CARD OF 'journal.LawS3594AAccepts'. -/
def lawS3594AAcceptsCard : Claim7 := { stood := { row := lawS3594AAcceptsRow, standIns := [], harness := (true, "a29214421688e2c319cefd300bc599eb0f717992e8e5a4c4f994b3e44a6024a2"), looks := false }, told := true, goes := false }
def LawS3594AAcceptsToldSaid : Prop := Claim7.holds Ybaf.pinned (.plain (OpenSpec.ofChange lawS3594AAcceptsSpec)) lawS3594AAcceptsCard
/-- ITS FALSE NEIGHBOUR. Refute it at one input. -/
def LawS3594AAcceptsToldWrongFalsely : Prop := Claim7.holds Ybaf.pinned (.plain (OpenSpec.ofChange lawS3594AAcceptsWrong)) lawS3594AAcceptsCard

/-- THE TOLD CARD OF 'journal.LawS3594ALengths'. -/
def lawS3594ALengthsCard : Claim7 := { stood := { row := lawS3594ALengthsRow, standIns := [], harness := (true, "a29214421688e2c319cefd300bc599eb0f717992e8e5a4c4f994b3e44a6024a2"), looks := false }, told := true, goes := false }
def LawS3594ALengthsToldSaid : Prop := Claim7.holds Ybaf.pinned (.plain (OpenSpec.ofChange lawS3594ALengthsSpec)) lawS3594ALengthsCard
/-- ITS FALSE NEIGHBOUR. Refute it at one input. -/
def LawS3594ALengthsToldWrongFalsely : Prop := Claim7.holds Ybaf.pinned (.plain (OpenSpec.ofChange lawS3594ALengthsWrong)) lawS3594ALengthsCard
end Rows
end Go.Proofs.YbulkbvkgFmt
