/-
  NARROWER THAN 'FOR EVERY INPUT', by the rows' own cells (each row's printed sentence says how): LawS3591ANilOnFresh: ifaces, laid · LawS3591ACheckLapse: ifaces, laid.
  DERIVED. THE GIVEN ROWS OF THIS SEAT. 2 by the template 'for every input the law returns true; each argument reads behind the call as it read before'; 0 by the template 'total and deterministic' (their statements: YbulkbviqGreatFmtTotals.lean).
  GIVEN WITH THE SEED: the statements are not yours to turn. If you find one false, say at which input.
  Laid BY PROGRAM, IN A SANDBOX (cutbox-rows.mjs): the forced cells as the released guide's own fill.sh prints them over the translation cf8327e7903f3f60… (all of the seat's roots in one cut). By AI agents, Wed Nov 11 2026. No macro, syntax, notation, axiom, sorry.
-/
import Derived.Test.YbulkbviqGreatFmtChecked
import GoSem.Claim
import GoSem.ClaimJoined
import GoSem.ClaimMapViews
import Derived.JoinedTies
import Derived.KernelRfl
namespace Go.Proofs.YbulkbviqGreatFmt
/- THE CELL 'sum', in the pinned program and in every row, IS THE sha256 OF THE DUMP (.gsa) THAT YbulkbviqGreatFmtProg.lean LOADS. Nothing in Lean hashes anything: it is a label: what it is worth is what the hold of that sum in a sandbox is worth. -/
noncomputable def Ybaz.pinned : Pinned := { name := "ybulkbviqgreatfmt", sum := "cf8327e7903f3f608fa287cdf6affd0e35ade297b8b9aa3043e609697bdaf28d", checked := Ybaz.checked }
namespace Rows
def none {H : Type} : Left H := { results := [], args := [] }

/- WHAT THE LISTED PACKAGE-LEVEL VARIABLES READ AS WHEN THE CALL BEGINS. Each datum BY PROGRAM (the guide's laid-datum.mjs) off the statement by which the dump's own 'gosem.cut.vars' lays the variable. In a bare row this is a premise. The card (YbulkbviqGreatFmtCards.lean) ties it to the program's text. -/
def laid_math_bits_deBruijn32tab {H : Type} : DataW H := .agg [.lit (.int .u8 0), .lit (.int .u8 1), .lit (.int .u8 28), .lit (.int .u8 2), .lit (.int .u8 29), .lit (.int .u8 14), .lit (.int .u8 24), .lit (.int .u8 3), .lit (.int .u8 30), .lit (.int .u8 22), .lit (.int .u8 20), .lit (.int .u8 15), .lit (.int .u8 25), .lit (.int .u8 17), .lit (.int .u8 4), .lit (.int .u8 8), .lit (.int .u8 31), .lit (.int .u8 27), .lit (.int .u8 13), .lit (.int .u8 23), .lit (.int .u8 21), .lit (.int .u8 19), .lit (.int .u8 16), .lit (.int .u8 7), .lit (.int .u8 26), .lit (.int .u8 12), .lit (.int .u8 18), .lit (.int .u8 6), .lit (.int .u8 11), .lit (.int .u8 5), .lit (.int .u8 10), .lit (.int .u8 9)]
def laid_math_bits_deBruijn64tab {H : Type} : DataW H := .agg [.lit (.int .u8 0), .lit (.int .u8 1), .lit (.int .u8 56), .lit (.int .u8 2), .lit (.int .u8 57), .lit (.int .u8 49), .lit (.int .u8 28), .lit (.int .u8 3), .lit (.int .u8 61), .lit (.int .u8 58), .lit (.int .u8 42), .lit (.int .u8 50), .lit (.int .u8 38), .lit (.int .u8 29), .lit (.int .u8 17), .lit (.int .u8 4), .lit (.int .u8 62), .lit (.int .u8 47), .lit (.int .u8 59), .lit (.int .u8 36), .lit (.int .u8 45), .lit (.int .u8 43), .lit (.int .u8 51), .lit (.int .u8 22), .lit (.int .u8 53), .lit (.int .u8 39), .lit (.int .u8 33), .lit (.int .u8 30), .lit (.int .u8 24), .lit (.int .u8 18), .lit (.int .u8 12), .lit (.int .u8 5), .lit (.int .u8 63), .lit (.int .u8 55), .lit (.int .u8 48), .lit (.int .u8 27), .lit (.int .u8 60), .lit (.int .u8 41), .lit (.int .u8 37), .lit (.int .u8 16), .lit (.int .u8 46), .lit (.int .u8 35), .lit (.int .u8 44), .lit (.int .u8 21), .lit (.int .u8 52), .lit (.int .u8 32), .lit (.int .u8 23), .lit (.int .u8 11), .lit (.int .u8 54), .lit (.int .u8 26), .lit (.int .u8 40), .lit (.int .u8 15), .lit (.int .u8 34), .lit (.int .u8 20), .lit (.int .u8 31), .lit (.int .u8 10), .lit (.int .u8 25), .lit (.int .u8 14), .lit (.int .u8 19), .lit (.int .u8 9), .lit (.int .u8 13), .lit (.int .u8 8), .lit (.int .u8 7), .lit (.int .u8 6)]
def laid_internal_strconv_uint64pow10 {H : Type} : DataW H := .agg [.lit (.int .u64 1), .lit (.int .u64 10), .lit (.int .u64 100), .lit (.int .u64 1000), .lit (.int .u64 10000), .lit (.int .u64 100000), .lit (.int .u64 1000000), .lit (.int .u64 10000000), .lit (.int .u64 100000000), .lit (.int .u64 1000000000), .lit (.int .u64 10000000000), .lit (.int .u64 100000000000), .lit (.int .u64 1000000000000), .lit (.int .u64 10000000000000), .lit (.int .u64 100000000000000), .lit (.int .u64 1000000000000000), .lit (.int .u64 10000000000000000), .lit (.int .u64 100000000000000000), .lit (.int .u64 1000000000000000000), .lit (.int .u64 10000000000000000000)]
def laid_example_com_probewire_probewire_ErrNotBlocked {H : Type} : DataW H := .iface "*errors.errorString" (.ptr (.agg [.lit (.string [110, 111, 116, 32, 97, 32, 98, 108, 111, 99, 107, 101, 100, 32, 112, 114, 111, 99, 101, 115, 115, 32, 111, 102, 32, 116, 104, 105, 115, 32, 115, 105, 116, 101])]))
def laid_example_com_probewire_probewire_ErrInvalidID {H : Type} : DataW H := .iface "*errors.errorString" (.ptr (.agg [.lit (.string [97, 110, 32, 105, 100, 32, 105, 115, 32, 97, 32, 110, 111, 110, 45, 101, 109, 112, 116, 121, 32, 115, 116, 114, 105, 110, 103, 32, 111, 102, 32, 112, 114, 105, 110, 116, 97, 98, 108, 101, 32, 65, 83, 67, 73, 73, 32, 119, 105, 116, 104, 111, 117, 116, 32, 115, 112, 97, 99, 101, 115])]))

/-- 'probewire.LawS3591ANilOnFresh': WHATEVER THE INPUT: true; the input reads as it did. -/
def lawS3591ANilOnFreshSpec : ChangeSpec := { name := "lawS3591ANilOnFresh", vars := ["example.com/probewire/probewire.ErrInvalidID", "example.com/probewire/probewire.ErrNotBlocked"], fn := fun _ => fun
  | [d1, d2, d3, g1, g2] => { results := [.lit (.bool true)], args := [d1, d2, d3], vars := [g1, g2] }
  | _ => none }
def lawS3591ANilOnFreshRow : OpenClaim := { program := "ybulkbviqgreatfmt", sum := "cf8327e7903f3f608fa287cdf6affd0e35ade297b8b9aa3043e609697bdaf28d", func := "example.com/probewire/probewire.LawS3591ANilOnFresh", spec := "lawS3591ANilOnFresh", stops := ["fmt.errorf"], inPlace := ["fmt.errorf", "internal/bytealg.abigen_runtime_cmpstring"], unfollowed := true, recurses := true, named := ["example.com/probewire/probewire.ErrInvalidID", "internal/strconv.uint64pow10", "math/bits.deBruijn32tab", "math/bits.deBruijn64tab", "example.com/probewire/probewire.ErrNotBlocked"], ifaces := true, apart := false, laid := [("math/bits.deBruijn32tab", laid_math_bits_deBruijn32tab), ("math/bits.deBruijn64tab", laid_math_bits_deBruijn64tab), ("internal/strconv.uint64pow10", laid_internal_strconv_uint64pow10), ("example.com/probewire/probewire.ErrNotBlocked", laid_example_com_probewire_probewire_ErrNotBlocked), ("example.com/probewire/probewire.ErrInvalidID", laid_example_com_probewire_probewire_ErrInvalidID)] }
/-- NO THEOREM (fmt's text is open here; it may be false): for the released tool's asking of the row's closed facts alone. THE STATEMENT IS 'LawS3591ANilOnFreshToldSaid' (YbulkbviqGreatFmtCards.lean). -/
def LawS3591ANilOnFreshFormAsk : Prop := lawS3591ANilOnFreshRow.holds Ybaz.pinned (OpenSpec.ofChange lawS3591ANilOnFreshSpec)

/-- ITS FALSE NEIGHBOUR: 'it returns false'. Refute it at one input. -/
def lawS3591ANilOnFreshWrong : ChangeSpec := { name := "lawS3591ANilOnFresh", vars := ["example.com/probewire/probewire.ErrInvalidID", "example.com/probewire/probewire.ErrNotBlocked"], fn := fun _ => fun
  | [d1, d2, d3, g1, g2] => { results := [.lit (.bool false)], args := [d1, d2, d3], vars := [g1, g2] }
  | _ => none }
def LawS3591ANilOnFreshWrongFormAsk : Prop := lawS3591ANilOnFreshRow.holds Ybaz.pinned (OpenSpec.ofChange lawS3591ANilOnFreshWrong)

/-- 'probewire.LawS3591ACheckLapse': WHATEVER THE INPUT: true; the input reads as it did. -/
def lawS3591ACheckLapseSpec : ChangeSpec := { name := "lawS3591ACheckLapse", vars := ["example.com/probewire/probewire.ErrInvalidID", "example.com/probewire/probewire.ErrNotBlocked"], fn := fun _ => fun
  | [d1, d2, g1, g2] => { results := [.lit (.bool true)], args := [d1, d2], vars := [g1, g2] }
  | _ => none }
def lawS3591ACheckLapseRow : OpenClaim := { program := "ybulkbviqgreatfmt", sum := "cf8327e7903f3f608fa287cdf6affd0e35ade297b8b9aa3043e609697bdaf28d", func := "example.com/probewire/probewire.LawS3591ACheckLapse", spec := "lawS3591ACheckLapse", stops := ["fmt.errorf"], inPlace := ["fmt.errorf", "internal/bytealg.abigen_runtime_cmpstring"], unfollowed := true, recurses := true, named := ["example.com/probewire/probewire.ErrInvalidID", "internal/strconv.uint64pow10", "math/bits.deBruijn32tab", "math/bits.deBruijn64tab", "example.com/probewire/probewire.ErrNotBlocked"], ifaces := true, apart := false, laid := [("math/bits.deBruijn32tab", laid_math_bits_deBruijn32tab), ("math/bits.deBruijn64tab", laid_math_bits_deBruijn64tab), ("internal/strconv.uint64pow10", laid_internal_strconv_uint64pow10), ("example.com/probewire/probewire.ErrNotBlocked", laid_example_com_probewire_probewire_ErrNotBlocked), ("example.com/probewire/probewire.ErrInvalidID", laid_example_com_probewire_probewire_ErrInvalidID)] }
/-- NO THEOREM (fmt's text is open here; it may be false): for the released tool's asking of the row's closed facts alone. THE STATEMENT IS 'LawS3591ACheckLapseToldSaid' (YbulkbviqGreatFmtCards.lean). -/
def LawS3591ACheckLapseFormAsk : Prop := lawS3591ACheckLapseRow.holds Ybaz.pinned (OpenSpec.ofChange lawS3591ACheckLapseSpec)

/-- ITS FALSE NEIGHBOUR: 'it returns false'. Refute it at one input. -/
def lawS3591ACheckLapseWrong : ChangeSpec := { name := "lawS3591ACheckLapse", vars := ["example.com/probewire/probewire.ErrInvalidID", "example.com/probewire/probewire.ErrNotBlocked"], fn := fun _ => fun
  | [d1, d2, g1, g2] => { results := [.lit (.bool false)], args := [d1, d2], vars := [g1, g2] }
  | _ => none }
def LawS3591ACheckLapseWrongFormAsk : Prop := lawS3591ACheckLapseRow.holds Ybaz.pinned (OpenSpec.ofChange lawS3591ACheckLapseWrong)

end Rows
end Go.Proofs.YbulkbviqGreatFmt
