/-
  own, stands, receiveCheck on a new site.
-/
import Derived.Test.YbulkbviqGreatFmtSite
import Derived.Test.YbulkbviqGreatFmtMsg
import Derived.WalkKit
import Derived.WalkSpells
import Derived.RegionTactic
import Derived.BigRegion
import Derived.WalkSmall
set_option linter.unusedVariables false
namespace Go.Proofs.YbulkbviqGreatFmt
open Go.RowKit Go.ChangeMaps

/-- What the roads read of a site that is empty. -/
structure Fresh (w : World) (sb i q f : Nat) (name : ByteArray) : Prop where
  site : w.heap[sb]? = some (.cells (siteCells name i q f) 53)
  index : w.heap[i]? = some (.map #[] 0)
  searches : w.heap[q]? = some (.map #[] 0)

theorem Fresh.of_made {w w' : World} {s : ByteArray} (h : SiteMade w w' s) : Fresh w' (w.heap.size + 4) w.heap.size (w.heap.size + 1) (w.heap.size + 2) s := ⟨h.site, h.index, h.searches⟩

theorem Fresh.below {w w' : World} {sb i q f : Nat} {s : ByteArray} (h : Fresh w sb i q f s) (hB : Below w.heap.size w w') : Fresh w' sb i q f s :=
  ⟨(hB.block sb (lt_in h.site)).trans h.site, (hB.block i (lt_in h.index)).trans h.index, (hB.block q (lt_in h.searches)).trans h.searches⟩

theorem zero3 (w : World) : (zeroValue 3).run Ybaz.prog w = .ok (.int .i64 0) w := by kernel_rfl

theorem look_no {w : World} {i : Nat} (h : w.heap[i]? = some (.map #[] 0)) (s : ByteArray) : (Instr.lookup 35 (.map (some i)) (.string s) true).run Ybaz.prog w = .ok (.tuple #[.int .i64 0, .bool false]) w :=
  run_look_no true Ybaz.underlying35 Ybaz.underlying9 h (zero3 w) rfl

variable {w : World} {sb i q f : Nat} {name : ByteArray}

set_option maxRecDepth 100000 in
theorem own_no (id : ByteArray) (h : Fresh w sb i q f name) :
    Calls Ybaz.prog 33 #[.pointer (some ⟨sb, 0, none⟩), .string id] w fun e w' => e = .returned (.int .i64 (-1)) ∧ w' = w := by
  have hl := look_no h.index id
  have c1 := cell_in h.site 1
  simp [siteCells] at c1
  clear h
  go_enter Ybaz.func33, Ybaz.ntmps33
  go_wp2
  go_ret
  exact ⟨rfl, rfl⟩

set_option maxRecDepth 100000 in
theorem stands_no (ini : ByteArray) (n : Int) (rcv : ByteArray) (h : Fresh w sb i q f name) :
    Calls Ybaz.prog 35 #[.pointer (some ⟨sb, 0, none⟩), .string ini, .int .u64 n, .string rcv] w fun e w' => e = .returned (.bool false) ∧ w' = w := by
  have k := own_no rcv h
  clear h
  go_enter Ybaz.func35, Ybaz.ntmps35
  go_wp2_with fail
  refine k.mono ?_
  rintro e w1 ⟨rfl, rfl⟩
  go_wp2
  go_ret
  exact ⟨rfl, rfl⟩

end Go.Proofs.YbulkbviqGreatFmt
