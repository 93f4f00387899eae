/-
  No cell of these rows narrows 'for every input' (looked for: loops, veiled, ifaces, maps, wideKeys, modest, calm, conditions, laid).
  DERIVED. THE GIVEN ROWS OF THIS SEAT. 3 by the template 'for every input the law returns true; each argument reads behind the call as it read before'; 0 by the template 'total and deterministic' (their statements: YbulkbviqTotals.lean).
  GIVEN WITH THE SEED: the statements are not yours to turn. If you find one false, say at which input.
  Laid BY PROGRAM, IN A SANDBOX (cutbox-rows.mjs): the forced cells as the released guide's own fill.sh prints them over the translation 5663250d2b6a8b9e… (all of the seat's roots in one cut). By AI agents, Wed Nov 11 2026. No macro, syntax, notation, axiom, sorry.
-/
import Derived.Test.YbulkbviqChecked
import GoSem.Claim
import GoSem.ClaimJoined
import GoSem.ClaimMapViews
import Derived.JoinedTies
import Derived.KernelRfl
namespace Go.Proofs.Ybulkbviq
/- THE CELL 'sum', in the pinned program and in every row, IS THE sha256 OF THE DUMP (.gsa) THAT YbulkbviqProg.lean LOADS. Nothing in Lean hashes anything: it is a label: what it is worth is what the hold of that sum in a sandbox is worth. -/
noncomputable def Yba.pinned : Pinned := { name := "ybulkbviq", sum := "5663250d2b6a8b9ef8f37b253d89abd14f275830ed9fb60288375372bf7dbf16", checked := Yba.checked }
namespace Rows
def none {H : Type} : Left H := { results := [], args := [] }

/-- 'probewire.LawS3591BMainRoad': WHATEVER THE INPUT: true; the input reads as it did. -/
def lawS3591BMainRoadSpec : ChangeSpec := { name := "lawS3591BMainRoad", fn := fun _ => fun
  | [d] => { results := [.lit (.bool true)], args := [d] }
  | _ => none }
def lawS3591BMainRoadRow : OpenClaim := { program := "ybulkbviq", sum := "5663250d2b6a8b9ef8f37b253d89abd14f275830ed9fb60288375372bf7dbf16", func := "example.com/probewire/probewire.LawS3591BMainRoad", spec := "lawS3591BMainRoad", unfollowed := true, recurses := true, apart := false }
def LawS3591BMainRoadSaid : Prop := lawS3591BMainRoadRow.holds Yba.pinned (OpenSpec.ofChange lawS3591BMainRoadSpec)

/-- ITS FALSE NEIGHBOUR: 'it returns false'. Refute it at one input. -/
def lawS3591BMainRoadWrong : ChangeSpec := { name := "lawS3591BMainRoad", fn := fun _ => fun
  | [d] => { results := [.lit (.bool false)], args := [d] }
  | _ => none }
def LawS3591BMainRoadWrongFalsely : Prop := lawS3591BMainRoadRow.holds Yba.pinned (OpenSpec.ofChange lawS3591BMainRoadWrong)

/-- 'probewire.LawS3591CFields': WHATEVER THE INPUT: true; the input reads as it did. -/
def lawS3591CFieldsSpec : ChangeSpec := { name := "lawS3591CFields", fn := fun _ => fun
  | [d1, d2, d3, d4, d5, d6, d7] => { results := [.lit (.bool true)], args := [d1, d2, d3, d4, d5, d6, d7] }
  | _ => none }
def lawS3591CFieldsRow : OpenClaim := { program := "ybulkbviq", sum := "5663250d2b6a8b9ef8f37b253d89abd14f275830ed9fb60288375372bf7dbf16", func := "example.com/probewire/probewire.LawS3591CFields", spec := "lawS3591CFields", apart := false }
def LawS3591CFieldsSaid : Prop := lawS3591CFieldsRow.holds Yba.pinned (OpenSpec.ofChange lawS3591CFieldsSpec)

/-- ITS FALSE NEIGHBOUR: 'it returns false'. Refute it at one input. -/
def lawS3591CFieldsWrong : ChangeSpec := { name := "lawS3591CFields", fn := fun _ => fun
  | [d1, d2, d3, d4, d5, d6, d7] => { results := [.lit (.bool false)], args := [d1, d2, d3, d4, d5, d6, d7] }
  | _ => none }
def LawS3591CFieldsWrongFalsely : Prop := lawS3591CFieldsRow.holds Yba.pinned (OpenSpec.ofChange lawS3591CFieldsWrong)

/-- 'probewire.LawS3591CRing': WHATEVER THE INPUT: true; the input reads as it did. -/
def lawS3591CRingSpec : ChangeSpec := { name := "lawS3591CRing", fn := fun _ => fun
  | [d1, d2, d3, d4, d5, d6] => { results := [.lit (.bool true)], args := [d1, d2, d3, d4, d5, d6] }
  | _ => none }
def lawS3591CRingRow : OpenClaim := { program := "ybulkbviq", sum := "5663250d2b6a8b9ef8f37b253d89abd14f275830ed9fb60288375372bf7dbf16", func := "example.com/probewire/probewire.LawS3591CRing", spec := "lawS3591CRing", apart := false }
def LawS3591CRingSaid : Prop := lawS3591CRingRow.holds Yba.pinned (OpenSpec.ofChange lawS3591CRingSpec)

/-- ITS FALSE NEIGHBOUR: 'it returns false'. Refute it at one input. -/
def lawS3591CRingWrong : ChangeSpec := { name := "lawS3591CRing", fn := fun _ => fun
  | [d1, d2, d3, d4, d5, d6] => { results := [.lit (.bool false)], args := [d1, d2, d3, d4, d5, d6] }
  | _ => none }
def LawS3591CRingWrongFalsely : Prop := lawS3591CRingRow.holds Yba.pinned (OpenSpec.ofChange lawS3591CRingWrong)

end Rows
end Go.Proofs.Ybulkbviq
