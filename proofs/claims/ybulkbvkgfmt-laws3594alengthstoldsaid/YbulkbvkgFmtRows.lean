/-
  No cell of these rows narrows 'for every input' (looked for: loops, veiled, ifaces, maps, wideKeys, modest, calm, conditions, laid).
  DERIVED. THE GIVEN ROWS OF THIS SEAT. 2 by the template 'for every input the law returns true; each argument reads behind the call as it read before'; 0 by the template 'total and deterministic' (their statements: YbulkbvkgFmtTotals.lean).
  GIVEN WITH THE SEED: the statements are not yours to turn. If you find one false, say at which input.
  Laid BY PROGRAM, IN A SANDBOX (cutbox-rows.mjs): the forced cells as the released guide's own fill.sh prints them over the translation bcea057d3fb82cb4… (all of the seat's roots in one cut). By AI agents, Wed Nov 11 2026. No macro, syntax, notation, axiom, sorry.
-/
import Derived.Test.YbulkbvkgFmtChecked
import GoSem.Claim
import GoSem.ClaimJoined
import GoSem.ClaimMapViews
import Derived.JoinedTies
import Derived.KernelRfl
namespace Go.Proofs.YbulkbvkgFmt
/- THE CELL 'sum', in the pinned program and in every row, IS THE sha256 OF THE DUMP (.gsa) THAT YbulkbvkgFmtProg.lean LOADS. Nothing in Lean hashes anything: it is a label: what it is worth is what the hold of that sum in a sandbox is worth. -/
noncomputable def Ybaf.pinned : Pinned := { name := "ybulkbvkgfmt", sum := "bcea057d3fb82cb42aa47df27d297feac6c907bf5a96e6b41d8c9ce9c7378d2d", checked := Ybaf.checked }
namespace Rows
def none {H : Type} : Left H := { results := [], args := [] }

/-- 'journal.LawS3594AAccepts': WHATEVER THE INPUT: true; the input reads as it did. -/
def lawS3594AAcceptsSpec : ChangeSpec := { name := "lawS3594AAccepts", fn := fun _ => fun
  | [d] => { results := [.lit (.bool true)], args := [d] }
  | _ => none }
def lawS3594AAcceptsRow : OpenClaim := { program := "ybulkbvkgfmt", sum := "bcea057d3fb82cb42aa47df27d297feac6c907bf5a96e6b41d8c9ce9c7378d2d", func := "example.com/sievecast/sievecast/journal.LawS3594AAccepts", spec := "lawS3594AAccepts", stops := ["fmt.errorf"], inPlace := ["fmt.errorf"], apart := false }
/-- NO THEOREM (fmt's text is open here; it may be false): for the released tool's asking of the row's closed facts alone. THE STATEMENT IS 'LawS3594AAcceptsToldSaid' (YbulkbvkgFmtCards.lean). -/
def LawS3594AAcceptsFormAsk : Prop := lawS3594AAcceptsRow.holds Ybaf.pinned (OpenSpec.ofChange lawS3594AAcceptsSpec)

/-- ITS FALSE NEIGHBOUR: 'it returns false'. Refute it at one input. -/
def lawS3594AAcceptsWrong : ChangeSpec := { name := "lawS3594AAccepts", fn := fun _ => fun
  | [d] => { results := [.lit (.bool false)], args := [d] }
  | _ => none }
def LawS3594AAcceptsWrongFormAsk : Prop := lawS3594AAcceptsRow.holds Ybaf.pinned (OpenSpec.ofChange lawS3594AAcceptsWrong)

/-- 'journal.LawS3594ALengths': WHATEVER THE INPUT: true; the input reads as it did. -/
def lawS3594ALengthsSpec : ChangeSpec := { name := "lawS3594ALengths", fn := fun _ => fun
  | [d] => { results := [.lit (.bool true)], args := [d] }
  | _ => none }
def lawS3594ALengthsRow : OpenClaim := { program := "ybulkbvkgfmt", sum := "bcea057d3fb82cb42aa47df27d297feac6c907bf5a96e6b41d8c9ce9c7378d2d", func := "example.com/sievecast/sievecast/journal.LawS3594ALengths", spec := "lawS3594ALengths", stops := ["fmt.errorf"], inPlace := ["fmt.errorf"], apart := false }
/-- NO THEOREM (fmt's text is open here; it may be false): for the released tool's asking of the row's closed facts alone. THE STATEMENT IS 'LawS3594ALengthsToldSaid' (YbulkbvkgFmtCards.lean). -/
def LawS3594ALengthsFormAsk : Prop := lawS3594ALengthsRow.holds Ybaf.pinned (OpenSpec.ofChange lawS3594ALengthsSpec)

/-- ITS FALSE NEIGHBOUR: 'it returns false'. Refute it at one input. -/
def lawS3594ALengthsWrong : ChangeSpec := { name := "lawS3594ALengths", fn := fun _ => fun
  | [d] => { results := [.lit (.bool false)], args := [d] }
  | _ => none }
def LawS3594ALengthsWrongFormAsk : Prop := lawS3594ALengthsRow.holds Ybaf.pinned (OpenSpec.ofChange lawS3594ALengthsWrong)

end Rows
end Go.Proofs.YbulkbvkgFmt
