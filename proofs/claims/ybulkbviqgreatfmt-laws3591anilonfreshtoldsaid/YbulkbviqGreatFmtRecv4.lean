/-
  What a new site does with a notice, a lapse, a settlement, and a message of a search.
-/
import Derived.Test.YbulkbviqGreatFmtRecv
import Derived.WalkKit
import Derived.WalkSpells
import Derived.RegionTactic
import Derived.BigRegion
import Derived.BigQuiet
import Derived.Deep.QuietTactic
import Derived.Deep.RegionWith
import Derived.WalkSmall
set_option linter.unusedVariables false
namespace Go.Proofs.YbulkbviqGreatFmt
open Go.RowKit Go.ChangeMaps

variable {w : World} {sb i q f : Nat} {name : ByteArray}

theorem zero67 (w : World) : (zeroValue 67).run Ybaz.prog w = .ok (.pointer none) w := by kernel_rfl
theorem look36 {w : World} {i : Nat} (h : w.heap[i]? = some (.map #[] 0)) (s : ByteArray) : (Instr.lookup 36 (.map (some i)) (.string s) false).run Ybaz.prog w = .ok (.pointer none) w :=
  run_look_no false Ybaz.underlying36 Ybaz.underlying9 h (zero67 w) rfl

set_option maxRecDepth 100000 in
set_option maxHeartbeats 1000000 in
theorem notice_new (kind search hops maxCost walk floor : Int) (ini snd frm rcv site mx mxs iniSite : ByteArray) (h : Fresh w sb i q f name) :
    Calls Ybaz.prog 11 #[.pointer (some ⟨sb, 0, none⟩), .agg (msgV kind ini search snd frm rcv site hops mx mxs maxCost walk iniSite floor)] w fun e w' => e = .returned (.tuple #[]) ∧ Below w.heap.size w w' := by
  have hA : Fresh (w.alloc (.cells (msgV kind ini search snd frm rcv site hops mx mxs maxCost walk iniSite floor) 25)) sb i q f name := h.below ((Below.refl _ _).alloc (Nat.le_refl _) _)
  have k1 := own_no rcv hA
  clear h hA
  unfold msgV at k1 ⊢
  go_enter Ybaz.func11, Ybaz.ntmps11
  go_wp2_with fail
  refine k1.mono ?_
  rintro e w1 ⟨rfl, rfl⟩
  go_wp2
  exact bodyPost_ret (v := .tuple #[]) (by simp [results, Ybaz.results11, go_sem]) rfl ⟨rfl, (Below.refl _ _).alloc (Nat.le_refl _) _⟩

set_option maxRecDepth 100000 in
set_option maxHeartbeats 1000000 in
theorem lapseRing_new (ini : ByteArray) (search : Int) (vic : ByteArray) (h : Fresh w sb i q f name) :
    Calls Ybaz.prog 37 #[.pointer (some ⟨sb, 0, none⟩), .string ini, .int .u64 search, .string vic] w fun e w' => e = .returned (.slice none 0 0) ∧ w' = w := by
  have k1 := own_no ini h
  have hl := look36 h.searches ini
  have c5 := cell_in h.site 5
  simp [siteCells] at c5
  clear h
  go_enter Ybaz.func37, Ybaz.ntmps37
  go_wp2_with fail
  refine k1.mono ?_
  rintro e w1 ⟨rfl, rfl⟩
  go_wp2
  go_ret
  exact ⟨rfl, rfl⟩

set_option maxRecDepth 100000 in
set_option maxHeartbeats 1000000 in
theorem lapse_new (kind search hops maxCost walk floor : Int) (ini snd frm rcv site mx mxs iniSite : ByteArray) (h : Fresh w sb i q f name) :
    Calls Ybaz.prog 13 #[.pointer (some ⟨sb, 0, none⟩), .agg (msgV kind ini search snd frm rcv site hops mx mxs maxCost walk iniSite floor)] w fun e w' => e = .returned (.slice none 0 0) ∧ Below w.heap.size w w' := by
  have hA : Fresh (w.alloc (.cells (msgV kind ini search snd frm rcv site hops mx mxs maxCost walk iniSite floor) 25)) sb i q f name := h.below ((Below.refl _ _).alloc (Nat.le_refl _) _)
  have k1 := own_no rcv hA
  have k2 := lapseRing_new ini search mx hA
  clear h hA
  unfold msgV at k1 k2 ⊢
  go_enter Ybaz.func13, Ybaz.ntmps13
  cases hm : (mx.toList == ([] : List UInt8)) with
  | true =>
    go_wp2_with fail
    refine k1.mono ?_
    rintro e w1 ⟨rfl, rfl⟩
    go_wp2
    go_ret
    exact ⟨rfl, (Below.refl _ _).alloc (Nat.le_refl _) _⟩
  | false =>
    go_wp2_with fail
    refine k2.mono ?_
    rintro e w1 ⟨rfl, rfl⟩
    go_wp2_with fail
    refine k1.mono ?_
    rintro e w1 ⟨rfl, rfl⟩
    go_wp2
    go_ret
    exact ⟨rfl, (Below.refl _ _).alloc (Nat.le_refl _) _⟩

set_option maxRecDepth 100000 in
set_option maxHeartbeats 1000000 in
theorem settlement_new (kind search hops maxCost walk floor : Int) (ini snd frm rcv site mx mxs iniSite : ByteArray) (h : Fresh w sb i q f name) :
    Calls Ybaz.prog 14 #[.pointer (some ⟨sb, 0, none⟩), .agg (msgV kind ini search snd frm rcv site hops mx mxs maxCost walk iniSite floor)] w fun e w' => e = .returned (.tuple #[]) ∧ Below w.heap.size w w' := by
  have hA : Fresh (w.alloc (.cells (msgV kind ini search snd frm rcv site hops mx mxs maxCost walk iniSite floor) 25)) sb i q f name := h.below ((Below.refl _ _).alloc (Nat.le_refl _) _)
  have hD : ∀ n, Fresh ((w.alloc (.cells (msgV kind ini search snd frm rcv site hops mx mxs maxCost walk iniSite floor) 25)).drewN n) sb i q f name := fun n => ⟨hA.site, hA.index, hA.searches⟩
  have hl : ∀ n, (Instr.lookup 36 (.map (some q)) (.string rcv) false).run Ybaz.prog ((w.alloc (.cells (msgV kind ini search snd frm rcv site hops mx mxs maxCost walk iniSite floor) 25)).drewN n) = .ok (.pointer none) ((w.alloc (.cells (msgV kind ini search snd frm rcv site hops mx mxs maxCost walk iniSite floor) 25)).drewN n) := fun n => look36 (hD n).searches rcv
  have c5 := cell_in hA.site 5
  have l5 := lt_in h.site
  simp [siteCells] at c5
  clear h hA
  unfold msgV at hD hl c5 ⊢
  go_enter Ybaz.func14, Ybaz.ntmps14
  go_wp2_with fail
  go_quiet (first | (go_at_call 33; exact Calls.quiet_of_same (own_no rcv (hD _))))
  go_wp2
  go_quiet (fail)
  go_wp2
  exact bodyPost_end (v := .tuple #[]) (by simp [results, Ybaz.results14, go_sem]) rfl ⟨rfl, below_drewN (below_drewN ((Below.refl _ _).alloc (Nat.le_refl _) _) _) _⟩

set_option maxRecDepth 100000 in
theorem kind_and (kd : Int) (h : kd = 0 ∨ kd = 4) (w : World) : Calls Ybaz.prog 15 #[.int .i64 kd] w fun e w' => e = .returned (.tuple #[.int .i64 0, .bool true]) ∧ w' = w := by
  rcases h with rfl | rfl <;> (go_enter Ybaz.func15, Ybaz.ntmps15; go_wp2; exact bodyPost_ret (v := .tuple #[.int .i64 0, .bool true]) (by simp [results, Ybaz.results15, go_sem]) rfl ⟨rfl, rfl⟩)

set_option maxRecDepth 100000 in
theorem kind_or (kd : Int) (h : kd = 1 ∨ kd = 2 ∨ kd = 7 ∨ kd = 8 ∨ kd = 10) (w : World) : Calls Ybaz.prog 15 #[.int .i64 kd] w fun e w' => e = .returned (.tuple #[.int .i64 1, .bool true]) ∧ w' = w := by
  rcases h with rfl | rfl | rfl | rfl | rfl <;> (go_enter Ybaz.func15, Ybaz.ntmps15; go_wp2; exact bodyPost_ret (v := .tuple #[.int .i64 1, .bool true]) (by simp [results, Ybaz.results15, go_sem]) rfl ⟨rfl, rfl⟩)

end Go.Proofs.YbulkbviqGreatFmt
