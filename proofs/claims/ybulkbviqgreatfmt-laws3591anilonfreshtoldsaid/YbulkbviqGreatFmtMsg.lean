/-
  A message's cells; what is refused.
-/
import Derived.Test.YbulkbviqGreatFmtValid
import Derived.WalkKit
import Derived.WalkSpells
import Derived.WalkLawsBesides
import Derived.Handy
namespace Go.Proofs.YbulkbviqGreatFmt
open Go.RowKit

/-- A message's cells. -/
def msgV (kind : Int) (ini : ByteArray) (search : Int) (snd frm rcv site : ByteArray) (hops : Int) (mx mxs : ByteArray) (maxCost walk : Int) (iniSite : ByteArray) (floor : Int) : Array Value :=
  #[.int .i64 kind, .string ini, .int .u64 search, .string snd, .string frm, .string rcv, .string site, .int .i64 hops, .string mx, .string mxs, .int .u64 maxCost, .int .u64 walk, .string iniSite, .int .u64 floor]

/-- What is refused. -/
def refB (kind : Int) (name site ini snd rcv : ByteArray) (search hops walk maxCost : Int) (mx iniSite : ByteArray) : Bool :=
  !(site.toList == name.toList) || !validB ini || !validB snd || !validB rcv || (search == 0) || ((kind == 0) && decide (hops ≤ 0)) || (((kind == 0) || (kind == 4) || (kind == 7) || (kind == 10) || (kind == 9)) && (walk == 0)) ||
    ((kind == 4) && !validB mx) || ((kind == 4) && decide (9007199254740991 < maxCost)) || ((kind == 9) && !validB iniSite)

end Go.Proofs.YbulkbviqGreatFmt
