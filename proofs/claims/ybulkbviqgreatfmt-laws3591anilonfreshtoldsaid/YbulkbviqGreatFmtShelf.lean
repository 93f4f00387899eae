/-
  THE SHELF's CONTRACTS of internal/strconv's numDigits and formatBase10, laid at this program: one application each.
-/
import Derived.Shelf.Lay
import Derived.Shelf.LaysM
import Derived.Shelf.Strconv.Itoa0
import Derived.Shelf.Strconv.Itoa1
import Derived.Shelf.Strconv.Itoa2
import Derived.Test.YbulkbviqGreatFmtProg
import Derived.Test.YbulkbviqGreatFmtName
namespace Go.Proofs
open Go.Shelf
shelf_lay LaysM.n284 Nm 284 at Ybaz as Ybaz.laysM284
open Go.Lib in
/-- numDigits. -/
theorem Ybaz.numDigits (u : Nat) (h1 : 1 ≤ u) (h2 : u < 18446744073709551616) (w : World) (htab : Lib.TabIs Ybaz.prog w YbulkbviqGreatFmt.nT .u64 Lib.pow10Tab) :
    Calls Ybaz.prog 92 #[.int .u64 u] w fun e w' => e = .returned (.int .i64 (Lib.nDigits u)) ∧ w' = w := Any.internal_strconv_numDigits Ybaz.laysM284 u h1 h2 w htab
shelf_lay Lays.n285 Nm 285 at Ybaz as Ybaz.lays285
open Go.RowKit Go.Sort Go.Lib in
/-- formatBase10. -/
theorem Ybaz.formatBase10 (blk off cap : Nat) (u : Nat) (d : Array UInt8) (w : World) (hH : Holds (fun (b : UInt8) => Value.int .u8 (b.toNat : Int)) w blk off d) (hu : u < 10 ^ d.size) (hu64 : u < 18446744073709551616) (hsz : d.size < 4611686018427387904) :
    Calls Ybaz.prog 93 #[.slice (some ⟨blk, off, none⟩) d.size cap, .int .u64 u] w fun e w' =>
      e = .returned (.tuple #[]) ∧ ∃ (n v' : Nat) (dk : Array UInt8), w' = (putRow (fun (b : UInt8) => Value.int .u8 (b.toNat : Int)) w blk off dk).drewN n ∧ FmtInv d.size u 0 v' dk := Any.internal_strconv_formatBase10 Ybaz.lays285 blk off cap u d w hH hu hu64 hsz
#print axioms Ybaz.formatBase10
end Go.Proofs
