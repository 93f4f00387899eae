/-
  The main road: receiveConfirmation, where it refuses.
-/
import Derived.Test.YbulkbviqRoadH
import Derived.WalkKit
import Derived.WalkSpells
import Derived.WalkLawsBesides
import Derived.Handy
import Derived.Deep.RegionHeld3
import Derived.Deep.DrawnRows
import Derived.BigRegion
import Derived.BigQuiet
namespace Go.Proofs.Ybulkbviq
open Go.RowKit Go.ChangeMaps
attribute [local go_sem ↓] Go.wp_at_zero Go.wp_at_succ

section
variable {w : World} {n : Nat} {procs links srch walk : Array Value} {waitedAt floor cost : Int}

/-- The confirmation that comes in: its cells. -/
def inC (snd mn ms : ByteArray) (mc cw : Int) : Array Value :=
  #[.int .i64 4, .string ⟨#[]⟩, .int .u64 0, .string snd, .string ⟨#[]⟩, .string ⟨#[]⟩, .string ⟨#[]⟩, .int .i64 0, .string mn, .string ms, .int .u64 mc, .int .u64 cw, .string ⟨#[]⟩, .int .u64 0]

/-- What the first region reads. -/
theorem sFirst {W : World} {b : Nat} {ini home snd mn ms : ByteArray} {num back mc cw : Int} {rw : Value} {dcl : Bool} (hq : W.heap[n + 12]? = some (.cells (srchA n ini home num back rw dcl) 42)) (hv : W.heap[b]? = some (.cells (inC snd mn ms mc cw) 31)) :
    W.cell? ⟨n + 12, 7, none⟩ = some (.slice (some ⟨n + 14, 0, none⟩) 1 1) ∧ W.cell? ⟨b, 11, none⟩ = some (.int .u64 cw) :=
  ⟨(cell_in hq 7).trans rfl, (cell_in hv 11).trans rfl⟩

set_option maxRecDepth 100000 in
set_option maxHeartbeats 3200000 in
/-- No walk of that number. -/
theorem receive_noWalk_b {ini home mn ms : ByteArray} {num back mc cw walkNum sender sent : Int} (h : Road w n (siteA n (.slice none 0 0) (.slice none 0 0) 0 (.slice none 0 0) 0) procs links (srchA n ini home num back (.slice none 0 0) false) (walkA walkNum sender sent) waitedAt floor) (hne : walkNum ≠ cw) :
    Calls Yba.prog 7 #[.pointer (some ⟨n + 5, 0, none⟩), .pointer (some ⟨n + 12, 0, none⟩), .int .i64 0, .agg (inC ⟨#[98]⟩ mn ms mc cw)] w fun e w' => e = .returned (.slice none 0 0) ∧
      Road w' n (siteA n (.slice none 0 0) (.slice none 0 0) 0 (.slice none 0 0) 0) procs links (srchA n ini home num back (.slice none 0 0) false) (walkA walkNum sender sent) waitedAt floor ∧ Keep n w w' := by
  have HN := hide hne
  clear hne
  have HH := hide h
  have hsz := h.size
  clear h
  have key := hide (bsearch_ne (n + 14) walkNum cw (sender) sent ((w.alloc (.cells (inC ⟨#[98]⟩ mn ms mc cw) 31)).drew) (HH.out.alloc _).walk HN.out)
  have HV : Hid ((w.alloc (.cells (inC ⟨#[98]⟩ mn ms mc cw) 31)).heap[w.heap.size]? = some (.cells (inC ⟨#[98]⟩ mn ms mc cw) 31)) := heap_alloc_at _ _ rfl
  have HR := hide (HH.out.alloc (.cells (inC ⟨#[98]⟩ mn ms mc cw) 31))
  have HA : Hid (∀ w1, Below ((w.alloc (.cells (inC ⟨#[98]⟩ mn ms mc cw) 31)).drew).heap.size ((w.alloc (.cells (inC ⟨#[98]⟩ mn ms mc cw) 31)).drew) w1 →
      Road w1 n (siteA n (.slice none 0 0) (.slice none 0 0) 0 (.slice none 0 0) 0) procs links (srchA n ini home num back (.slice none 0 0) false) (walkA walkNum (sender) sent) waitedAt floor ∧ w1.heap[w.heap.size]? = some (.cells (inC ⟨#[98]⟩ mn ms mc cw) 31) ∧ Keep n w w1) := fun w1 hB =>
    ⟨HR.out.drew.below hB HR.out.drew.size, (hB.block w.heap.size (by simp)).trans HV.out, (((Keep.refl n w).alloc _).drew).below hB⟩
  unfold inC
  go_enter Yba.func7, Yba.ntmps7
  go_wp2
  go_region_held3 (fun w' => w'.cell? ⟨n + 12, 7, none⟩ = some (.slice (some ⟨n + 14, 0, none⟩) 1 1) ∧ w'.cell? ⟨w.heap.size, 11, none⟩ = some (.int .u64 cw))
    (first | exact sFirst HR.out.srch HV.out | exact sFirst (HA.out w1 hB1).1.srch (HA.out w1 hB1).2.1)
    (first | (go_at_call 11; refine key.out.mono ?_; rintro e w1 ⟨i, rfl, hB1⟩))
  obtain ⟨hR1, hv1, hK1⟩ := HA.out w1 hB1
  have c1 := cell_in hR1.site 1
  have x3 := cell_in hv1 3
  have hl := look_b (w := w1.drew) hR1.drew.index
  simp [siteA, inC] at c1 x3
  have H1 := hide hR1
  have HV1 := hide hv1
  have HK1 := hide hK1
  clear hR1 hv1 hK1 key HV HR HA hB1 HH
  go_wp2
  go_region
  go_wp2
  go_ret
  exact ⟨rfl, H1.out.drew, HK1.out.drew⟩

set_option maxRecDepth 100000 in
set_option maxHeartbeats 3200000 in
/-- No walk of that number. -/
theorem receive_noWalk_q {ini home mn ms : ByteArray} {num back mc cw walkNum sender sent : Int} (h : Road w n (siteA n (.slice none 0 0) (.slice none 0 0) 0 (.slice none 0 0) 0) procs links (srchA n ini home num back (.slice none 0 0) false) (walkA walkNum sender sent) waitedAt floor) (hne : walkNum ≠ cw) :
    Calls Yba.prog 7 #[.pointer (some ⟨n + 5, 0, none⟩), .pointer (some ⟨n + 12, 0, none⟩), .int .i64 0, .agg (inC ⟨#[113]⟩ mn ms mc cw)] w fun e w' => e = .returned (.slice none 0 0) ∧
      Road w' n (siteA n (.slice none 0 0) (.slice none 0 0) 0 (.slice none 0 0) 0) procs links (srchA n ini home num back (.slice none 0 0) false) (walkA walkNum sender sent) waitedAt floor ∧ Keep n w w' := by
  have HN := hide hne
  clear hne
  have HH := hide h
  have hsz := h.size
  clear h
  have key := hide (bsearch_ne (n + 14) walkNum cw (sender) sent ((w.alloc (.cells (inC ⟨#[113]⟩ mn ms mc cw) 31)).drew) (HH.out.alloc _).walk HN.out)
  have HV : Hid ((w.alloc (.cells (inC ⟨#[113]⟩ mn ms mc cw) 31)).heap[w.heap.size]? = some (.cells (inC ⟨#[113]⟩ mn ms mc cw) 31)) := heap_alloc_at _ _ rfl
  have HR := hide (HH.out.alloc (.cells (inC ⟨#[113]⟩ mn ms mc cw) 31))
  have HA : Hid (∀ w1, Below ((w.alloc (.cells (inC ⟨#[113]⟩ mn ms mc cw) 31)).drew).heap.size ((w.alloc (.cells (inC ⟨#[113]⟩ mn ms mc cw) 31)).drew) w1 →
      Road w1 n (siteA n (.slice none 0 0) (.slice none 0 0) 0 (.slice none 0 0) 0) procs links (srchA n ini home num back (.slice none 0 0) false) (walkA walkNum (sender) sent) waitedAt floor ∧ w1.heap[w.heap.size]? = some (.cells (inC ⟨#[113]⟩ mn ms mc cw) 31) ∧ Keep n w w1) := fun w1 hB =>
    ⟨HR.out.drew.below hB HR.out.drew.size, (hB.block w.heap.size (by simp)).trans HV.out, (((Keep.refl n w).alloc _).drew).below hB⟩
  unfold inC
  go_enter Yba.func7, Yba.ntmps7
  go_wp2
  go_region_held3 (fun w' => w'.cell? ⟨n + 12, 7, none⟩ = some (.slice (some ⟨n + 14, 0, none⟩) 1 1) ∧ w'.cell? ⟨w.heap.size, 11, none⟩ = some (.int .u64 cw))
    (first | exact sFirst HR.out.srch HV.out | exact sFirst (HA.out w1 hB1).1.srch (HA.out w1 hB1).2.1)
    (first | (go_at_call 11; refine key.out.mono ?_; rintro e w1 ⟨i, rfl, hB1⟩))
  obtain ⟨hR1, hv1, hK1⟩ := HA.out w1 hB1
  have c1 := cell_in hR1.site 1
  have x3 := cell_in hv1 3
  have hl := look_q (w := w1.drew) hR1.drew.index
  simp [siteA, inC] at c1 x3
  have H1 := hide hR1
  have HV1 := hide hv1
  have HK1 := hide hK1
  clear hR1 hv1 hK1 key HV HR HA hB1 HH
  go_wp2
  go_region
  go_wp2
  go_ret
  exact ⟨rfl, H1.out.drew, HK1.out.drew⟩

set_option maxRecDepth 100000 in
set_option maxHeartbeats 3200000 in
/-- The sender is not known. -/
theorem receive_noSender {ini home mn ms : ByteArray} {num back mc walkNum sender sent : Int} (h : Road w n (siteA n (.slice none 0 0) (.slice none 0 0) 0 (.slice none 0 0) 0) procs links (srchA n ini home num back (.slice none 0 0) false) (walkA walkNum sender sent) waitedAt floor) :
    Calls Yba.prog 7 #[.pointer (some ⟨n + 5, 0, none⟩), .pointer (some ⟨n + 12, 0, none⟩), .int .i64 0, .agg (inC ⟨#[113]⟩ mn ms mc walkNum)] w fun e w' => e = .returned (.slice none 0 0) ∧
      Road w' n (siteA n (.slice none 0 0) (.slice none 0 0) 0 (.slice none 0 0) 0) procs links (srchA n ini home num back (.slice none 0 0) false) (walkA walkNum sender sent) waitedAt floor ∧ Keep n w w' := by
  have HH := hide h
  have hsz := h.size
  clear h
  have key := hide (bsearch_eq (n + 14) walkNum (sender) sent ((w.alloc (.cells (inC ⟨#[113]⟩ mn ms mc walkNum) 31)).drew) (HH.out.alloc _).walk)
  have HV : Hid ((w.alloc (.cells (inC ⟨#[113]⟩ mn ms mc walkNum) 31)).heap[w.heap.size]? = some (.cells (inC ⟨#[113]⟩ mn ms mc walkNum) 31)) := heap_alloc_at _ _ rfl
  have HR := hide (HH.out.alloc (.cells (inC ⟨#[113]⟩ mn ms mc walkNum) 31))
  have HA : Hid (∀ w1, Below ((w.alloc (.cells (inC ⟨#[113]⟩ mn ms mc walkNum) 31)).drew).heap.size ((w.alloc (.cells (inC ⟨#[113]⟩ mn ms mc walkNum) 31)).drew) w1 →
      Road w1 n (siteA n (.slice none 0 0) (.slice none 0 0) 0 (.slice none 0 0) 0) procs links (srchA n ini home num back (.slice none 0 0) false) (walkA walkNum (sender) sent) waitedAt floor ∧ w1.heap[w.heap.size]? = some (.cells (inC ⟨#[113]⟩ mn ms mc walkNum) 31) ∧ Keep n w w1) := fun w1 hB =>
    ⟨HR.out.drew.below hB HR.out.drew.size, (hB.block w.heap.size (by simp)).trans HV.out, (((Keep.refl n w).alloc _).drew).below hB⟩
  unfold inC
  go_enter Yba.func7, Yba.ntmps7
  go_wp2
  go_region_held3 (fun w' => w'.cell? ⟨n + 12, 7, none⟩ = some (.slice (some ⟨n + 14, 0, none⟩) 1 1) ∧ w'.cell? ⟨w.heap.size, 11, none⟩ = some (.int .u64 walkNum))
    (first | exact sFirst HR.out.srch HV.out | exact sFirst (HA.out w1 hB1).1.srch (HA.out w1 hB1).2.1)
    (first | (go_at_call 11; refine key.out.mono ?_; rintro e w1 ⟨rfl, hB1⟩))
  obtain ⟨hR1, hv1, hK1⟩ := HA.out w1 hB1
  have c1 := cell_in hR1.site 1
  have x3 := cell_in hv1 3
  have hl := look_q (w := w1.drew) hR1.drew.index
  simp [siteA, inC] at c1 x3
  have H1 := hide hR1
  have HV1 := hide hv1
  have HK1 := hide hK1
  clear hR1 hv1 hK1 key HV HR HA hB1 HH
  go_wp2
  go_region
  go_wp2
  go_ret
  exact ⟨rfl, H1.out.drew, HK1.out.drew⟩

set_option maxRecDepth 100000 in
set_option maxHeartbeats 3200000 in
/-- The wait is no older than the walk. -/
theorem receive_young {ini home mn ms : ByteArray} {num back mc walkNum sender sent : Int} {settled : Value} (h : Road w n (siteA n (.slice none 0 0) (.slice none 0 0) 0 (.slice none 0 0) 0) (procsA n cost settled) links (srchA n ini home num back (.slice none 0 0) false) (walkA walkNum sender sent) waitedAt floor) (hy : walkNum ≤ waitedAt) :
    Calls Yba.prog 7 #[.pointer (some ⟨n + 5, 0, none⟩), .pointer (some ⟨n + 12, 0, none⟩), .int .i64 0, .agg (inC ⟨#[98]⟩ mn ms mc walkNum)] w fun e w' => e = .returned (.slice none 0 0) ∧
      Road w' n (siteA n (.slice none 0 0) (.slice none 0 0) 0 (.slice none 0 0) 0) (procsA n cost settled) links (srchA n ini home num back (.slice none 0 0) false) (walkA walkNum sender sent) waitedAt floor ∧ Keep n w w' := by
  have HY := hide hy
  clear hy
  have HH := hide h
  have hsz := h.size
  clear h
  have key := hide (bsearch_eq (n + 14) walkNum (sender) sent ((w.alloc (.cells (inC ⟨#[98]⟩ mn ms mc walkNum) 31)).drew) (HH.out.alloc _).walk)
  have HV : Hid ((w.alloc (.cells (inC ⟨#[98]⟩ mn ms mc walkNum) 31)).heap[w.heap.size]? = some (.cells (inC ⟨#[98]⟩ mn ms mc walkNum) 31)) := heap_alloc_at _ _ rfl
  have HR := hide (HH.out.alloc (.cells (inC ⟨#[98]⟩ mn ms mc walkNum) 31))
  have HA : Hid (∀ w1, Below ((w.alloc (.cells (inC ⟨#[98]⟩ mn ms mc walkNum) 31)).drew).heap.size ((w.alloc (.cells (inC ⟨#[98]⟩ mn ms mc walkNum) 31)).drew) w1 →
      Road w1 n (siteA n (.slice none 0 0) (.slice none 0 0) 0 (.slice none 0 0) 0) (procsA n cost settled) links (srchA n ini home num back (.slice none 0 0) false) (walkA walkNum (sender) sent) waitedAt floor ∧ w1.heap[w.heap.size]? = some (.cells (inC ⟨#[98]⟩ mn ms mc walkNum) 31) ∧ Keep n w w1) := fun w1 hB =>
    ⟨HR.out.drew.below hB HR.out.drew.size, (hB.block w.heap.size (by simp)).trans HV.out, (((Keep.refl n w).alloc _).drew).below hB⟩
  unfold inC
  go_enter Yba.func7, Yba.ntmps7
  go_wp2
  go_region_held3 (fun w' => w'.cell? ⟨n + 12, 7, none⟩ = some (.slice (some ⟨n + 14, 0, none⟩) 1 1) ∧ w'.cell? ⟨w.heap.size, 11, none⟩ = some (.int .u64 walkNum))
    (first | exact sFirst HR.out.srch HV.out | exact sFirst (HA.out w1 hB1).1.srch (HA.out w1 hB1).2.1)
    (first | (go_at_call 11; refine key.out.mono ?_; rintro e w1 ⟨rfl, hB1⟩))
  obtain ⟨hR1, hv1, hK1⟩ := HA.out w1 hB1
  have c1 := cell_in hR1.site 1
  have x3 := cell_in hv1 3
  have hl := look_b (w := w1.drew) hR1.drew.index
  simp [siteA, inC] at c1 x3
  have H1 := hide hR1
  have HV1 := hide hv1
  have HK1 := hide hK1
  clear hR1 hv1 hK1 key HV HR HA hB1 HH
  go_wp2
  go_region
  have q7 := cell_in H1.out.srch 7
  have k0 := cell_in H1.out.walk 0
  have k1 := cell_in H1.out.walk 1
  have k2 := cell_in H1.out.walk 2
  have k3 := cell_in H1.out.walk 3
  simp [srchA, walkA] at q7 k0 k1 k2 k3
  have l14 := lt_in H1.out.walk
  go_wp2_with fail
  refine (held_no ((H1.out.drew).alloc _) walkNum sender sent HY.out).mono ?_
  rintro e w2 ⟨rfl, hB2⟩
  go_wp2
  go_ret
  refine ⟨rfl, ?_, ?_⟩
  · exact ((H1.out.drew).alloc _).below hB2 ((H1.out.drew).alloc _).size
  · exact ((HK1.out.drew).alloc _).below hB2

end
end Go.Proofs.Ybulkbviq
