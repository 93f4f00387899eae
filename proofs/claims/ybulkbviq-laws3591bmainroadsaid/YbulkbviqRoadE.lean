/-
  The main road: settleWay.
-/
import Derived.Test.YbulkbviqRoadD
import Derived.WalkKit
import Derived.WalkSpells
import Derived.WalkLawsBesides
import Derived.Handy
import Derived.Deep.RegionHeld3
import Derived.Deep.DrawnRows
import Derived.BigRegion
import Derived.BigQuiet
namespace Go.Proofs.Ybulkbviq
open Go.RowKit Go.ChangeMaps
attribute [local go_sem ↓] Go.wp_at_zero Go.wp_at_succ

section
variable {w : World} {n : Nat} {pend prev ring settled rw : Value} {unr made cost : Int} {site procs links srch walk : Array Value} {waitedAt floor : Int}

set_option maxRecDepth 100000 in
set_option maxHeartbeats 1600000 in
/-- A search of another: it settles the one on the way. -/
theorem settleWay_x (g c : Nat) (num back : Int) (home : ByteArray) (dcl : Bool) (h : Road w n (siteA n pend (.slice (some ⟨g, 0, none⟩) 3 c) 0 ring made) (procsA n cost settled) (linksA false false) (srchA n ⟨#[120]⟩ home num back rw dcl) walk waitedAt floor)
    (hg : w.cell? ⟨g, 0, none⟩ = some (.int .i64 (-1))) (hgn : n + 15 ≤ g) :
    Calls Yba.prog 16 #[.pointer (some ⟨n + 5, 0, none⟩), .pointer (some ⟨n + 12, 0, none⟩), .int .i64 0] w fun e w' => ∃ st, e = .returned (.int .i64 0) ∧
      Road w' n (siteA n pend (.slice (some ⟨g, 0, none⟩) 3 c) 1 ring made) (procsA n cost (.pointer (some ⟨st, 0, none⟩))) (linksA false true) (srchA n ⟨#[120]⟩ home num back rw dcl) walk waitedAt floor ∧
      w'.heap[st]? = some (.cells #[.int .u64 num, .string ⟨#[120]⟩, .string home, .string ⟨#[]⟩, .string ⟨#[]⟩, .bool false] 73) ∧ n + 15 ≤ st ∧ Keep n w w' := by
  have c14 := cell_in h.site 14
  have c15 := cell_in h.site 15
  have c16 := cell_in h.site 16
  have c17 := cell_in h.site 17
  have c18 := cell_in h.site 18
  have c4 := cell_in h.site 4
  have c13 := cell_in h.site 13
  have q0 := cell_in h.srch 0
  have q1 := cell_in h.srch 1
  have q3 := cell_in h.srch 3
  simp [siteA, srchA] at c14 c15 c16 c17 c18 c4 c13 q0 q1 q3
  have l5 := lt_in h.site
  have l12 := lt_in h.srch
  have hgl : g < w.heap.size := World.block_lt_of_cell? w _ hg
  have HH : Hid (Road w n (siteA n pend (.slice (some ⟨g, 0, none⟩) 3 c) 0 ring made) (procsA n cost settled) (linksA false false) (srchA n ⟨#[120]⟩ home num back rw dcl) walk waitedAt floor) := h
  clear h
  go_enter Yba.func16, Yba.ntmps16
  go_wp2_with fail
  refine (rank_any (HH.out.alloc _)).mono ?_
  rintro e w1 ⟨rfl, rfl⟩
  go_wp2_with fail
  have HR := (((HH.out.alloc (.cells #[.bool false, .int .i32 0, .int .i64 0, .int .i32 0, .bool false] 56)).alloc (.cells #[.pointer (some ⟨n + 5, 0, none⟩)] 25)).drew).drew
  have HR2 := ((((HH.out.alloc (.cells #[.bool false, .int .i32 0, .int .i64 0, .int .i32 0, .bool false] 56)).alloc (.cells #[.pointer (some ⟨n + 5, 0, none⟩)] 25)).alloc (.cells #[.int .u64 num, .string ⟨#[120]⟩, .string home, .string ⟨#[]⟩, .string ⟨#[]⟩, .bool false] 73)).drew).drew
  have mk : ∀ X : World, Road X n (siteA n pend (.slice (some ⟨g, 0, none⟩) 3 c) 0 ring made) (procsA n cost settled) (linksA false false) (srchA n ⟨#[120]⟩ home num back rw dcl) walk waitedAt floor →
      X.cell? ⟨n + 12, 0, none⟩ = some (.string ⟨#[120]⟩) ∧ X.cell? ⟨n + 12, 1, none⟩ = some (.string home) ∧ X.cell? ⟨n + 12, 3, none⟩ = some (.int .u64 num) ∧
      Road X n (siteA n pend (.slice (some ⟨g, 0, none⟩) 3 c) 0 ring made) (procsA n cost settled) (linksA false false) (srchA n ⟨#[120]⟩ home num back rw dcl) walk waitedAt floor :=
    fun X hX => ⟨(cell_in hX.srch 0).trans rfl, (cell_in hX.srch 1).trans rfl, (cell_in hX.srch 3).trans rfl, hX⟩
  go_region_held3 (fun w' => w'.cell? ⟨n + 12, 0, none⟩ = some (.string ⟨#[120]⟩) ∧ w'.cell? ⟨n + 12, 1, none⟩ = some (.string home) ∧ w'.cell? ⟨n + 12, 3, none⟩ = some (.int .u64 num) ∧
      Road w' n (siteA n pend (.slice (some ⟨g, 0, none⟩) 3 c) 0 ring made) (procsA n cost settled) (linksA false false) (srchA n ⟨#[120]⟩ home num back rw dcl) walk waitedAt floor)
    (first | with_reducible exact mk _ HR | with_reducible exact mk _ HR2)
    (first | (go_at_call 31; with_reducible refine (own_x HR).mono ?_; rintro e w' ⟨rfl, rfl⟩) | (go_at_call 31; with_reducible refine (own_x HR2).mono ?_; rintro e w' ⟨rfl, rfl⟩))
  all_goals
    have hst : (((((w.alloc (.cells #[.bool false, .int .i32 0, .int .i64 0, .int .i32 0, .bool false] 56)).alloc (.cells #[.pointer (some ⟨n + 5, 0, none⟩)] 25)).alloc (.cells #[.int .u64 num, .string ⟨#[120]⟩, .string home, .string ⟨#[]⟩, .string ⟨#[]⟩, .bool false] 73)).drew).drew).heap[w.heap.size + 1 + 1]? = some (.cells #[.int .u64 num, .string ⟨#[120]⟩, .string home, .string ⟨#[]⟩, .string ⟨#[]⟩, .bool false] 73) := by
      rw [heap_drew, heap_drew, heap_alloc_at _ _ (by simp)]
    have hK4 : Keep n w (((((w.alloc (.cells #[.bool false, .int .i32 0, .int .i64 0, .int .i32 0, .bool false] 56)).alloc (.cells #[.pointer (some ⟨n + 5, 0, none⟩)] 25)).alloc (.cells #[.int .u64 num, .string ⟨#[120]⟩, .string home, .string ⟨#[]⟩, .string ⟨#[]⟩, .bool false] 73)).drew).drew) := (((((Keep.refl n w).alloc _).alloc _).alloc _).drew).drew
    have hg4 : (((((w.alloc (.cells #[.bool false, .int .i32 0, .int .i64 0, .int .i32 0, .bool false] 56)).alloc (.cells #[.pointer (some ⟨n + 5, 0, none⟩)] 25)).alloc (.cells #[.int .u64 num, .string ⟨#[120]⟩, .string home, .string ⟨#[]⟩, .string ⟨#[]⟩, .bool false] 73)).drew).drew).cell? ⟨g, 0, none⟩ = some (.int .i64 (-1)) := by
      rw [cell_drew, cell_drew, World.cell?_alloc_past _ _ _ (by simp; omega), World.cell?_alloc_past _ _ _ (by simp; omega), World.cell?_alloc_past _ _ _ hgl]; exact hg
    have hsw : n + 15 ≤ w.heap.size + 1 + 1 := by have := HH.out.size; omega
    clear HR mk HH c14 c15 c16 c17 c18 c4 c13 q0 q1 q3 l5 l12 hg
    revert HR2 hst hK4 hg4
    generalize ((((w.alloc (.cells #[.bool false, .int .i32 0, .int .i64 0, .int .i32 0, .bool false] 56)).alloc (.cells #[.pointer (some ⟨n + 5, 0, none⟩)] 25)).alloc (.cells #[.int .u64 num, .string ⟨#[120]⟩, .string home, .string ⟨#[]⟩, .string ⟨#[]⟩, .bool false] 73)).drew).drew = X
    intro HR2 hst hK4 hg4
    have c2 := cell_in HR2.site 2
    have c4 := cell_in HR2.site 4
    have c13 := cell_in HR2.site 13
    have r1 := cell_in HR2.links 1
    have r3 := cell_in HR2.links 3
    have r4 := cell_in HR2.links 4
    have f4 := free_in HR2.links 4
    have p6 := cell_in HR2.procs 6
    have f6 := free_in HR2.procs 6
    simp [siteA, linksA, procsA] at c2 c4 c13 r1 r3 r4 p6
    have HX : Hid (Road X n (siteA n pend (.slice (some ⟨g, 0, none⟩) 3 c) 0 ring made) (procsA n cost settled) (linksA false false) (srchA n ⟨#[120]⟩ home num back rw dcl) walk waitedAt floor) := HR2
    have HKX : Hid (Keep n w X) := hK4
    have HS : Hid (X.heap[w.heap.size + 1 + 1]? = some (.cells #[.int .u64 num, .string ⟨#[120]⟩, .string home, .string ⟨#[]⟩, .string ⟨#[]⟩, .bool false] 73)) := hst
    clear HR2 hK4 hst
    have hgp : ¬ (g = n + 8) := by omega
    have hgl2 : ¬ (g = n + 10) := by omega
    have hgs : ¬ (g = n + 5) := by omega
    go_wp2
    go_region
    go_wp2
    go_region
    go_wp2
    refine wp_loop_rounds 2 ?_
    rw [rounds_succ]
    go_wp2_with fail
    refine (firstByID_any (((HX.out.p6 _).l4 true).drew.drew)).mono ?_
    rintro e w1 ⟨rfl, rfl⟩
    have hgp' : ¬ (n + 8 = g) := by omega
    have hgl2' : ¬ (n + 10 = g) := by omega
    have hgs' : ¬ (n + 5 = g) := by omega
    go_wp2_with fail
    rw [rounds_succ]
    go_wp2
    go_ret
    refine ⟨w.heap.size + 1 + 1, rfl, ?_, ?_, hsw, ?_⟩
    · exact ((((HX.out.p6 _).l4 true).s20 1).drew.drew).drew
    · rw [heap_drew, heap_drew, heap_drew, Below.heap_setCell _ _ _ _ (by show w.heap.size + 1 + 1 ≠ n + 5; omega), Below.heap_setCell _ _ _ _ (by show w.heap.size + 1 + 1 ≠ n + 10; omega), Below.heap_setCell _ _ _ _ (by show w.heap.size + 1 + 1 ≠ n + 8; omega)]
      exact HS.out
    · exact (((((HKX.out.procs 6 _).links 4 _).site 20 _).drew).drew).drew
set_option maxRecDepth 100000 in
set_option maxHeartbeats 1600000 in
/-- A search of the site's own: the one on the way is the search's own, which it leaves. -/
theorem settleWay_a (g c : Nat) (num back : Int) (home : ByteArray) (dcl : Bool) (h : Road w n (siteA n pend (.slice (some ⟨g, 0, none⟩) 3 c) 0 ring made) (procsA n cost settled) (linksA false false) (srchA n ⟨#[97]⟩ home num back rw dcl) walk waitedAt floor)
    (hg : w.cell? ⟨g, 0, none⟩ = some (.int .i64 (-1))) (hgn : n + 15 ≤ g) :
    Calls Yba.prog 16 #[.pointer (some ⟨n + 5, 0, none⟩), .pointer (some ⟨n + 12, 0, none⟩), .int .i64 0] w fun e w' => e = .returned (.int .i64 0) ∧
      Road w' n (siteA n pend (.slice (some ⟨g, 0, none⟩) 3 c) 1 ring made) (procsA n cost settled) (linksA false false) (srchA n ⟨#[97]⟩ home num back rw dcl) walk waitedAt floor ∧ Keep n w w' := by
  have c14 := cell_in h.site 14
  have c15 := cell_in h.site 15
  have c16 := cell_in h.site 16
  have c17 := cell_in h.site 17
  have c18 := cell_in h.site 18
  have c4 := cell_in h.site 4
  have c13 := cell_in h.site 13
  have q0 := cell_in h.srch 0
  have q1 := cell_in h.srch 1
  have q3 := cell_in h.srch 3
  simp [siteA, srchA] at c14 c15 c16 c17 c18 c4 c13 q0 q1 q3
  have l5 := lt_in h.site
  have l12 := lt_in h.srch
  have hgl : g < w.heap.size := World.block_lt_of_cell? w _ hg
  have HH : Hid (Road w n (siteA n pend (.slice (some ⟨g, 0, none⟩) 3 c) 0 ring made) (procsA n cost settled) (linksA false false) (srchA n ⟨#[97]⟩ home num back rw dcl) walk waitedAt floor) := h
  clear h
  go_enter Yba.func16, Yba.ntmps16
  go_wp2_with fail
  refine (rank_any (HH.out.alloc _)).mono ?_
  rintro e w1 ⟨rfl, rfl⟩
  go_wp2_with fail
  have HR := (((HH.out.alloc (.cells #[.bool false, .int .i32 0, .int .i64 0, .int .i32 0, .bool false] 56)).alloc (.cells #[.pointer (some ⟨n + 5, 0, none⟩)] 25)).drew).drew
  have HR2 := ((((HH.out.alloc (.cells #[.bool false, .int .i32 0, .int .i64 0, .int .i32 0, .bool false] 56)).alloc (.cells #[.pointer (some ⟨n + 5, 0, none⟩)] 25)).alloc (.cells #[.int .u64 num, .string ⟨#[97]⟩, .string home, .string ⟨#[]⟩, .string ⟨#[]⟩, .bool false] 73)).drew).drew
  have mk : ∀ X : World, Road X n (siteA n pend (.slice (some ⟨g, 0, none⟩) 3 c) 0 ring made) (procsA n cost settled) (linksA false false) (srchA n ⟨#[97]⟩ home num back rw dcl) walk waitedAt floor →
      X.cell? ⟨n + 12, 0, none⟩ = some (.string ⟨#[97]⟩) ∧ X.cell? ⟨n + 12, 1, none⟩ = some (.string home) ∧ X.cell? ⟨n + 12, 3, none⟩ = some (.int .u64 num) ∧
      Road X n (siteA n pend (.slice (some ⟨g, 0, none⟩) 3 c) 0 ring made) (procsA n cost settled) (linksA false false) (srchA n ⟨#[97]⟩ home num back rw dcl) walk waitedAt floor :=
    fun X hX => ⟨(cell_in hX.srch 0).trans rfl, (cell_in hX.srch 1).trans rfl, (cell_in hX.srch 3).trans rfl, hX⟩
  go_region_held3 (fun w' => w'.cell? ⟨n + 12, 0, none⟩ = some (.string ⟨#[97]⟩) ∧ w'.cell? ⟨n + 12, 1, none⟩ = some (.string home) ∧ w'.cell? ⟨n + 12, 3, none⟩ = some (.int .u64 num) ∧
      Road w' n (siteA n pend (.slice (some ⟨g, 0, none⟩) 3 c) 0 ring made) (procsA n cost settled) (linksA false false) (srchA n ⟨#[97]⟩ home num back rw dcl) walk waitedAt floor)
    (first | with_reducible exact mk _ HR | with_reducible exact mk _ HR2)
    (first | (go_at_call 31; with_reducible refine (own_a HR).mono ?_; rintro e w' ⟨rfl, rfl⟩) | (go_at_call 31; with_reducible refine (own_a HR2).mono ?_; rintro e w' ⟨rfl, rfl⟩))
  all_goals
    have hst : (((((w.alloc (.cells #[.bool false, .int .i32 0, .int .i64 0, .int .i32 0, .bool false] 56)).alloc (.cells #[.pointer (some ⟨n + 5, 0, none⟩)] 25)).alloc (.cells #[.int .u64 num, .string ⟨#[97]⟩, .string home, .string ⟨#[]⟩, .string ⟨#[]⟩, .bool false] 73)).drew).drew).heap[w.heap.size + 1 + 1]? = some (.cells #[.int .u64 num, .string ⟨#[97]⟩, .string home, .string ⟨#[]⟩, .string ⟨#[]⟩, .bool false] 73) := by
      rw [heap_drew, heap_drew, heap_alloc_at _ _ (by simp)]
    have hK4 : Keep n w (((((w.alloc (.cells #[.bool false, .int .i32 0, .int .i64 0, .int .i32 0, .bool false] 56)).alloc (.cells #[.pointer (some ⟨n + 5, 0, none⟩)] 25)).alloc (.cells #[.int .u64 num, .string ⟨#[97]⟩, .string home, .string ⟨#[]⟩, .string ⟨#[]⟩, .bool false] 73)).drew).drew) := (((((Keep.refl n w).alloc _).alloc _).alloc _).drew).drew
    have hg4 : (((((w.alloc (.cells #[.bool false, .int .i32 0, .int .i64 0, .int .i32 0, .bool false] 56)).alloc (.cells #[.pointer (some ⟨n + 5, 0, none⟩)] 25)).alloc (.cells #[.int .u64 num, .string ⟨#[97]⟩, .string home, .string ⟨#[]⟩, .string ⟨#[]⟩, .bool false] 73)).drew).drew).cell? ⟨g, 0, none⟩ = some (.int .i64 (-1)) := by
      rw [cell_drew, cell_drew, World.cell?_alloc_past _ _ _ (by simp; omega), World.cell?_alloc_past _ _ _ (by simp; omega), World.cell?_alloc_past _ _ _ hgl]; exact hg
    have hsw : n + 15 ≤ w.heap.size + 1 + 1 := by have := HH.out.size; omega
    clear HR mk HH c14 c15 c16 c17 c18 c4 c13 q0 q1 q3 l5 l12 hg
    revert HR2 hst hK4 hg4
    generalize ((((w.alloc (.cells #[.bool false, .int .i32 0, .int .i64 0, .int .i32 0, .bool false] 56)).alloc (.cells #[.pointer (some ⟨n + 5, 0, none⟩)] 25)).alloc (.cells #[.int .u64 num, .string ⟨#[97]⟩, .string home, .string ⟨#[]⟩, .string ⟨#[]⟩, .bool false] 73)).drew).drew = X
    intro HR2 hst hK4 hg4
    have c2 := cell_in HR2.site 2
    have c4 := cell_in HR2.site 4
    have c13 := cell_in HR2.site 13
    have r1 := cell_in HR2.links 1
    have r3 := cell_in HR2.links 3
    have r4 := cell_in HR2.links 4
    have f4 := free_in HR2.links 4
    have p6 := cell_in HR2.procs 6
    have f6 := free_in HR2.procs 6
    simp [siteA, linksA, procsA] at c2 c4 c13 r1 r3 r4 p6
    have HX : Hid (Road X n (siteA n pend (.slice (some ⟨g, 0, none⟩) 3 c) 0 ring made) (procsA n cost settled) (linksA false false) (srchA n ⟨#[97]⟩ home num back rw dcl) walk waitedAt floor) := HR2
    have HKX : Hid (Keep n w X) := hK4
    have HS : Hid (X.heap[w.heap.size + 1 + 1]? = some (.cells #[.int .u64 num, .string ⟨#[97]⟩, .string home, .string ⟨#[]⟩, .string ⟨#[]⟩, .bool false] 73)) := hst
    clear HR2 hK4 hst
    have hgp : ¬ (g = n + 8) := by omega
    have hgl2 : ¬ (g = n + 10) := by omega
    have hgs : ¬ (g = n + 5) := by omega
    go_wp2
    go_region
    go_wp2
    go_region
    go_wp2
    refine wp_loop_rounds 2 ?_
    rw [rounds_succ]
    go_wp2_with fail
    refine (firstByID_any (HX.out.drew.drew)).mono ?_
    rintro e w1 ⟨rfl, rfl⟩
    have hgp' : ¬ (n + 8 = g) := by omega
    have hgl2' : ¬ (n + 10 = g) := by omega
    have hgs' : ¬ (n + 5 = g) := by omega
    go_wp2_with fail
    rw [rounds_succ]
    go_wp2
    go_ret
    refine ⟨rfl, ?_, ?_⟩
    · exact ((HX.out.s20 1).drew.drew).drew
    · exact (((HKX.out.site 20 _).drew).drew).drew
end
end Go.Proofs.Ybulkbviq
