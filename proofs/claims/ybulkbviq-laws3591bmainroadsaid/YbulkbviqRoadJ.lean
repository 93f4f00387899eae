/-
  The main road: receiveConfirmation, beyond held.
-/
import Derived.Test.YbulkbviqRoadI
import Derived.WalkKit
import Derived.WalkSpells
import Derived.WalkLawsBesides
import Derived.Handy
import Derived.Deep.RegionHeld3
import Derived.Deep.DrawnRows
import Derived.BigRegion
import Derived.BigQuiet
namespace Go.Proofs.Ybulkbviq
open Go.RowKit Go.ChangeMaps
attribute [local go_sem ↓] Go.wp_at_zero Go.wp_at_succ

theorem room67 : ¬ 281474976710656 < Builtin.nextslicecap 1 0 * Yba.t67.bytes := of_decide_eq_false (by kernel_rfl)

section
variable {w : World} {n : Nat} {procs links srch walk : Array Value} {waitedAt floor cost : Int}

/-- The victim: a's own, or the one that came with the confirmation. -/
def Vic (cost mc : Int) (mn ms vp vs : ByteArray) (vc : Int) : Prop :=
  (gbB cost mc ⟨#[97]⟩ mn = true ∧ vp = ⟨#[97]⟩ ∧ vs = ⟨#[83, 49]⟩ ∧ vc = cost) ∨ (gbB cost mc ⟨#[97]⟩ mn = false ∧ vp = mn ∧ vs = ms ∧ vc = mc)

theorem firstOf_is {pend prev ring settled : Value} {unr made : Int} (h : Road w n (siteA n pend prev unr ring made) (procsA n cost settled) links srch walk waitedAt floor) {mn ms vp vs : ByteArray} {mc vc : Int} (hv : Vic cost mc mn ms vp vs vc) :
    Calls Yba.prog 15 #[.pointer (some ⟨n + 5, 0, none⟩), .agg #[.string mn, .string ms, .int .u64 mc], .int .i64 0] w fun e w' => e = .returned (.agg #[.string vp, .string vs, .int .u64 vc]) ∧ Below w.heap.size w w' := by
  rcases hv with ⟨hg, rfl, rfl, rfl⟩ | ⟨hg, rfl, rfl, rfl⟩
  · exact firstOf_yes h _ _ _ hg
  · exact firstOf_no h _ _ _ hg

set_option maxRecDepth 100000 in
set_option maxHeartbeats 3200000 in
/-- Detect began the walk and no probe came back. -/
theorem receive_noBack {home mn ms : ByteArray} {num mc walkNum sent : Int} {settled : Value} (h : Road w n (siteA n (.slice none 0 0) (.slice none 0 0) 0 (.slice none 0 0) 0) (procsA n cost settled) links (srchA n ⟨#[97]⟩ home num 0 (.slice none 0 0) false) (walkA walkNum (-1) sent) waitedAt floor) (hy : waitedAt < walkNum) :
    Calls Yba.prog 7 #[.pointer (some ⟨n + 5, 0, none⟩), .pointer (some ⟨n + 12, 0, none⟩), .int .i64 0, .agg (inC ⟨#[98]⟩ mn ms mc walkNum)] w fun e w' => ∃ pend prev, e = .returned (.slice none 0 0) ∧
      Road w' n (siteA n pend prev 0 (.slice none 0 0) 0) (procsA n cost settled) links (srchA n ⟨#[97]⟩ home num 0 (.slice none 0 0) false) (walkA walkNum (-1) sent) waitedAt floor ∧ Keep n w w' := by
  have HY := hide hy
  clear hy
  have HH := hide h
  have hsz := h.size
  clear h
  have key := hide (bsearch_eq (n + 14) walkNum (-1) sent ((w.alloc (.cells (inC ⟨#[98]⟩ mn ms mc walkNum) 31)).drew) (HH.out.alloc _).walk)
  have HV : Hid ((w.alloc (.cells (inC ⟨#[98]⟩ mn ms mc walkNum) 31)).heap[w.heap.size]? = some (.cells (inC ⟨#[98]⟩ mn ms mc walkNum) 31)) := heap_alloc_at _ _ rfl
  have HR := hide (HH.out.alloc (.cells (inC ⟨#[98]⟩ mn ms mc walkNum) 31))
  have HA : Hid (∀ w1, Below ((w.alloc (.cells (inC ⟨#[98]⟩ mn ms mc walkNum) 31)).drew).heap.size ((w.alloc (.cells (inC ⟨#[98]⟩ mn ms mc walkNum) 31)).drew) w1 →
      Road w1 n (siteA n (.slice none 0 0) (.slice none 0 0) 0 (.slice none 0 0) 0) (procsA n cost settled) links (srchA n ⟨#[97]⟩ home num 0 (.slice none 0 0) false) (walkA walkNum (-1) sent) waitedAt floor ∧ w1.heap[w.heap.size]? = some (.cells (inC ⟨#[98]⟩ mn ms mc walkNum) 31) ∧ Keep n w w1) := fun w1 hB =>
    ⟨HR.out.drew.below hB HR.out.drew.size, (hB.block w.heap.size (by simp)).trans HV.out, (((Keep.refl n w).alloc _).drew).below hB⟩
  unfold inC
  go_enter Yba.func7, Yba.ntmps7
  go_wp2
  go_region_held3 (fun w' => w'.cell? ⟨n + 12, 7, none⟩ = some (.slice (some ⟨n + 14, 0, none⟩) 1 1) ∧ w'.cell? ⟨w.heap.size, 11, none⟩ = some (.int .u64 walkNum))
    (first | exact sFirst HR.out.srch HV.out | exact sFirst (HA.out w1 hB1).1.srch (HA.out w1 hB1).2.1)
    (first | (go_at_call 11; refine key.out.mono ?_; rintro e w1 ⟨rfl, hB1⟩))
  obtain ⟨hR1, hv1, hK1⟩ := HA.out w1 hB1
  have c1 := cell_in hR1.site 1
  have x3 := cell_in hv1 3
  have hl := look_b (w := w1.drew) hR1.drew.index
  simp [siteA, inC] at c1 x3
  have H1 := hide hR1
  have HV1 := hide hv1
  have HK1 := hide hK1
  clear hR1 hv1 hK1 key HV HR HA hB1 HH
  go_wp2
  go_region
  have q7 := cell_in H1.out.srch 7
  have k0 := cell_in H1.out.walk 0
  have k1 := cell_in H1.out.walk 1
  have k2 := cell_in H1.out.walk 2
  have k3 := cell_in H1.out.walk 3
  simp [srchA, walkA] at q7 k0 k1 k2 k3
  have l14 := lt_in H1.out.walk
  go_wp2_with fail
  refine (held_yes ((H1.out.drew).alloc (.cells #[.int .u64 walkNum, .int .i64 0, .int .i64 (-1), .int .u64 sent] 84)) walkNum (-1) sent HY.out).mono ?_
  rintro e w2 ⟨pg, pc, g, c, rfl, hR2, hgn, hg2, hK2⟩
  have hw2 : w2.heap[w1.heap.size]? = some (.cells #[.int .u64 walkNum, .int .i64 0, .int .i64 (-1), .int .u64 sent] 84) := (hK2.block w1.heap.size (by simp) (Or.inr H1.out.size)).trans (heap_alloc_at _ _ rfl)
  have hx2 : w2.heap[w.heap.size]? = some (.cells (inC ⟨#[98]⟩ mn ms mc walkNum) 31) := by
    rw [hK2.block w.heap.size (by simp; have := lt_in HV1.out; omega) (Or.inr hsz), heap_alloc_past _ _ (by have := lt_in HV1.out; exact this)]; exact HV1.out
  have b1 := cell_in hw2 1
  have b2 := cell_in hw2 2
  have b3 := cell_in hw2 3
  have q8 := cell_in hR2.srch 8
  simp [srchA] at b1 b2 b3 q8
  have H2 := hide hR2
  have HG2 := hide hg2
  have HW2 := hide hw2
  have HX2 := hide hx2
  have HK2 := hide ((((HK1.out.drew).alloc _)).trans hK2)
  have hs1 := H1.out.size
  clear hR2 hg2 hw2 hx2 hK2 q7 k0 k1 k2 k3 l14 H1 HV1 HK1 c1 x3 hl
  go_wp2
  go_ret
  exact ⟨_, _, rfl, H2.out, HK2.out⟩

end
end Go.Proofs.Ybulkbviq
