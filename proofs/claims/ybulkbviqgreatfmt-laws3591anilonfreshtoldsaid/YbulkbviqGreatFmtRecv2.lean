/-
  receiveCheck on a new site.
-/
import Derived.Test.YbulkbviqGreatFmtRecv
import Derived.WalkKit
import Derived.WalkSpells
import Derived.RegionTactic
import Derived.BigRegion
import Derived.WalkSmall
set_option linter.unusedVariables false
namespace Go.Proofs.YbulkbviqGreatFmt
open Go.RowKit Go.ChangeMaps

variable {w : World} {sb i q f : Nat} {name : ByteArray}

set_option maxRecDepth 100000 in
set_option maxHeartbeats 1000000 in
theorem check_new (kind search hops maxCost walk floor : Int) (ini snd frm rcv site mx mxs iniSite : ByteArray) (h : Fresh w sb i q f name) :
    Calls Ybaz.prog 12 #[.pointer (some ⟨sb, 0, none⟩), .agg (msgV kind ini search snd frm rcv site hops mx mxs maxCost walk iniSite floor)] w fun e w' =>
      ∃ k, e = .returned (.slice (some ⟨k, 0, none⟩) 1 1) ∧ w.heap.size ≤ k ∧ w'.heap[k]? = some (.cells (msgV 6 ini search rcv name snd frm 0 ⟨#[]⟩ ⟨#[]⟩ 0 0 ⟨#[]⟩ 0) 25) ∧ Below w.heap.size w w' := by
  have hA : Fresh (w.alloc (.cells (msgV kind ini search snd frm rcv site hops mx mxs maxCost walk iniSite floor) 25)) sb i q f name := h.below ((Below.refl _ _).alloc (Nat.le_refl _) _)
  have k1 := stands_no ini search rcv hA
  have hs := lt_in h.site
  have c0 := cell_in hA.site 0
  simp [siteCells] at c0
  have k2 := victimMessage_at sb 0 6 ini search rcv name snd frm _ (lt_in hA.site) c0
  clear h hA
  unfold msgV at k1 k2 c0 ⊢
  go_enter Ybaz.func12, Ybaz.ntmps12
  go_wp2_with fail
  refine k1.mono ?_
  rintro e w1 ⟨rfl, rfl⟩
  go_wp2_with fail
  refine k2.mono ?_
  rintro e w1 ⟨rfl, rfl⟩
  unfold vMsg
  go_wp2
  go_ret
  refine ⟨_, rfl, by omega, ?_, ?_⟩
  · exact heap_alloc_at _ _ (by simp)
  · repeat (first | with_reducible exact Below.refl _ _ | (with_reducible refine below_drewN ?_ _) | (with_reducible refine Below.drew ?_) | (with_reducible refine Below.alloc ?_ (by first | omega | (simp; done) | (simp; omega)) _))

end Go.Proofs.YbulkbviqGreatFmt
