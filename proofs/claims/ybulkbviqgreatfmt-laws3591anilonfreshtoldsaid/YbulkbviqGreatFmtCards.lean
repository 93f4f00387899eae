/-
  DERIVED. GIVEN WITH THE SEED: THE CARDS: each row of YbulkbviqGreatFmtRows.lean that lists a variable, with what it lists TIED to the program's text (the seventh form; the later family's looks); each row that meets fmt, with fmt's text TOLD by the authors' own Lean function (tested against real Go, not proved from fmt's source: count such statements apart). THE CARD IS WHAT COUNTS. Prove the row's statement (the work); the ties are given (YbulkbviqGreatFmtTie.lean); close each card by the builder's one call (the guide's Derived/Test/ToyasCard.lean, 'card_holds'). Laid BY PROGRAM, IN A SANDBOX (cutbox-door.mjs). By AI agents, Wed Nov 11 2026. No macro, syntax, notation, axiom, sorry.
-/
import Derived.Test.YbulkbviqGreatFmtRows
import GoSem.ClaimSeven
namespace Go.Proofs.YbulkbviqGreatFmt
namespace Rows

/-- THE TOLD AND TIED CARD OF 'probewire.LawS3591ANilOnFresh'. -/
def lawS3591ANilOnFreshCard : Claim7 := { stood := { row := lawS3591ANilOnFreshRow, standIns := [], harness := (true, "a343aa7a4cfb0de87afee82747fa50f8796554c25ef5fbb23336ac8e74c13ae8"), looks := false }, told := true, laidByText := true, laidKinds := [.data, .data, .data, .sentinel, .sentinel], laidTests := true, laidLooks := .later, goes := false }
def LawS3591ANilOnFreshToldSaid : Prop := Claim7.holds Ybaz.pinned (.plain (OpenSpec.ofChange lawS3591ANilOnFreshSpec)) lawS3591ANilOnFreshCard
/-- ITS FALSE NEIGHBOUR. Refute it at one input. -/
def LawS3591ANilOnFreshToldWrongFalsely : Prop := Claim7.holds Ybaz.pinned (.plain (OpenSpec.ofChange lawS3591ANilOnFreshWrong)) lawS3591ANilOnFreshCard

/-- THE TOLD AND TIED CARD OF 'probewire.LawS3591ACheckLapse'. -/
def lawS3591ACheckLapseCard : Claim7 := { stood := { row := lawS3591ACheckLapseRow, standIns := [], harness := (true, "a343aa7a4cfb0de87afee82747fa50f8796554c25ef5fbb23336ac8e74c13ae8"), looks := false }, told := true, laidByText := true, laidKinds := [.data, .data, .data, .sentinel, .sentinel], laidTests := true, laidLooks := .later, goes := false }
def LawS3591ACheckLapseToldSaid : Prop := Claim7.holds Ybaz.pinned (.plain (OpenSpec.ofChange lawS3591ACheckLapseSpec)) lawS3591ACheckLapseCard
/-- ITS FALSE NEIGHBOUR. Refute it at one input. -/
def LawS3591ACheckLapseToldWrongFalsely : Prop := Claim7.holds Ybaz.pinned (.plain (OpenSpec.ofChange lawS3591ACheckLapseWrong)) lawS3591ACheckLapseCard
end Rows
end Go.Proofs.YbulkbviqGreatFmt
