/-
  The names on the road, taken from the given rows.
-/
import Derived.Test.YbulkbviqGreatFmtRows
namespace Go.Proofs.YbulkbviqGreatFmt

/-- The two errors that the rows read back. -/
def nI : String := Rows.lawS3591ACheckLapseSpec.vars.getD 0 ""
def nN : String := Rows.lawS3591ACheckLapseSpec.vars.getD 1 ""
/-- The table of the powers of ten. -/
def nT : String := Rows.lawS3591ACheckLapseRow.named.getD 1 ""
/-- The type of the listed errors. -/
def starErr : String := match (Rows.laid_example_com_probewire_probewire_ErrInvalidID : DataW Unit) with
  | .iface n _ => n
  | _ => ""

end Go.Proofs.YbulkbviqGreatFmt
