/-
  costError; the three calls in a row by which CheckMessage refuses a cost.
-/
import Derived.Test.YbulkbviqGreatFmtErr
import Derived.Test.YbulkbviqGreatFmtUint
import Derived.Lib.AppendIntMem
import Derived.WalkKit
import Derived.WalkSpells
import Derived.WalkLawsBesides
import Derived.ProofKit
set_option linter.unusedVariables false
namespace Go.Proofs.YbulkbviqGreatFmt
open Go.RowKit Go.Extern.Stop Go.Stop Go.Extern
attribute [local go_sem] call63 guardF ptr131 elem131 isError131' ptr130 elem130 isError130' op9_113 op9_115 op3_100 op9_113w op9_115w op3_100w fmt_addr fmt_addrr fmt_ini fmt_inir fmt_snd fmt_sndr fmt_rcv fmt_rcvr fmt_mx fmt_mxr fmt_cost fmt_costr fmt_home fmt_homer fmt_num fmt_numr

set_option maxRecDepth 100000 in
set_option maxHeartbeats 800000 in
theorem err_num2 (F : Interp) (blk : Nat) (w : World) (hF : F.answers w.tape) (s0 : ByteArray) (hc0 : w.cell? ⟨blk, 0, none⟩ = some (.iface 9 (.string s0))) (s1 : Int) (hc1 : w.cell? ⟨blk, 1, none⟩ = some (.iface 3 (.int .i64 s1))) :
    Calls Ybaz.prog 27 #[.string ⟨#[37, 115, 32, 105, 115, 32, 110, 111, 116, 32, 97, 110, 32, 105, 110, 116, 101, 103, 101, 114, 32, 102, 114, 111, 109, 32, 48, 32, 116, 111, 32, 37, 100]⟩, .slice (some ⟨blk, 0, none⟩) 2 2] w fun e w' => ∃ b t, e = .returned (.iface 131 (.pointer (some ⟨b, 0, none⟩))) ∧ w'.cell? ⟨b, 0, none⟩ = some (.string t) ∧ Below w.heap.size w w' := by
  have hF' := answers_open hF
  go_enter Ybaz.func27, Ybaz.ntmps27
  go_wp2
  go_ret
  exact ⟨_, _, rfl, new_cell w _ _ 0, ((Below.refl _ _).alloc (Nat.le_refl _) _).drew⟩

set_option maxRecDepth 100000 in
theorem cost_b (F : Interp) (w W : World) (hB : Below w.heap.size w W) (s : ByteArray) (hF : F.answers w.tape) :
    Calls Ybaz.prog 30 #[.string s] W fun e w' => ∃ b t, e = .returned (.iface 131 (.pointer (some ⟨b, 0, none⟩))) ∧ w'.cell? ⟨b, 0, none⟩ = some (.string t) ∧ Below w.heap.size w w' := by
  have hA := hB.alloc hB.size (.cells #[.iface 9 (.string s), .iface 3 (.int .i64 9007199254740991)] 20)
  have k := err_num2 F W.heap.size (W.alloc (.cells #[.iface 9 (.string s), .iface 3 (.int .i64 9007199254740991)] 20)) (by rw [hA.tape]; exact hF) s (new_cell W _ 20 0) 9007199254740991 (new_cell W _ 20 1)
  go_enter Ybaz.func30, Ybaz.ntmps30
  go_wp2_with fail
  refine k.mono ?_
  rintro e w1 ⟨b, t, rfl, hc, hB1⟩
  go_wp2
  go_ret
  exact ⟨b, t, rfl, hc, hA.trans (hB1.mono hA.size)⟩

theorem uint_b (w W : World) (hB : Below w.heap.size w W) (c : Int) (h0 : 100 ≤ c) (h1 : c < 18446744073709551616) (htab : Lib.TabIs Ybaz.prog w nT .u64 Lib.pow10Tab) :
    Calls Ybaz.prog 31 #[.int .u64 c, .int .i64 10] W fun e w' => ∃ s : ByteArray, e = .returned (.string s) ∧ Below w.heap.size w w' := by
  obtain ⟨u, rfl⟩ : ∃ u : Nat, c = u := ⟨c.toNat, by omega⟩
  refine (formatUint u (by omega) (by omega) W (Lib.tabBelow_of_tabIs htab W hB)).mono ?_
  rintro e w' ⟨s, rfl, hB'⟩
  exact ⟨s, rfl, hB.trans (hB'.mono hB.size)⟩

theorem errb_cost (F : Interp) (w W : World) (blk : Nat) (hB : Below w.heap.size w W) (hz : W.heap.size = blk) (b : Nat) (t : ByteArray) (hF : F.answers w.tape) (ht : W.cell? ⟨b, 0, none⟩ = some (.string t)) :
    Calls Ybaz.prog 27 #[.string ⟨#[116, 104, 101, 32, 34, 109, 97, 120, 95, 99, 111, 115, 116, 34, 32, 111, 102, 32, 97, 32, 99, 111, 110, 102, 105, 114, 109, 97, 116, 105, 111, 110, 58, 32, 37, 119]⟩, .slice (some ⟨blk, 0, none⟩) 1 1] (W.alloc (.cells #[.iface 131 (.pointer (some ⟨b, 0, none⟩))] 20)) fun e w' => ∃ b, e = .returned (.iface 130 (.pointer (some ⟨b, 0, none⟩))) ∧ Below w.heap.size w w' := by
  subst hz
  have hA := hB.alloc hB.size (.cells #[.iface 131 (.pointer (some ⟨b, 0, none⟩))] 20)
  have hlt : b < W.heap.size := World.block_lt_of_cell? _ _ ht
  refine (err_cost F _ _ (by rw [hA.tape]; exact hF) ⟨b, 0, none⟩ t (new_cell W _ 20 0) ((World.cell?_alloc_past _ _ _ hlt).trans ht)).mono ?_
  rintro e w' ⟨b', rfl, hB'⟩
  exact ⟨b', rfl, hA.trans (hB'.mono hA.size)⟩

end Go.Proofs.YbulkbviqGreatFmt
