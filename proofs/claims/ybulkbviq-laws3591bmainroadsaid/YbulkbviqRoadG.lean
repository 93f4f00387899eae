/-
  The main road: declarations.add, declare, declareRing.
-/
import Derived.Test.YbulkbviqRoadF
import Derived.WalkKit
import Derived.WalkSpells
import Derived.WalkLawsBesides
import Derived.Handy
import Derived.Deep.RegionHeld3
import Derived.Deep.DrawnRows
import Derived.BigRegion
import Derived.BigQuiet
namespace Go.Proofs.Ybulkbviq
open Go.RowKit Go.ChangeMaps
attribute [local go_sem ↓] Go.wp_at_zero Go.wp_at_succ

theorem room71 : ¬ 281474976710656 < Builtin.nextslicecap 1 0 * Yba.t71.bytes := of_decide_eq_false (by kernel_rfl)

section
variable {w : World} {n : Nat} {pend prev ring settled rw : Value} {unr made cost : Int} {site procs links srch walk : Array Value} {waitedAt floor : Int}

/-- A declaration's cells. -/
def dcl6 (seq : Int) (p : ByteArray) (hops : Int) (vp vs : ByteArray) : Array Value := #[.int .u64 seq, .string p, .int .i64 0, .int .i64 hops, .string vp, .string vs]

set_option maxRecDepth 100000 in
set_option maxHeartbeats 3200000 in
theorem addDecl_any (h : Road w n (siteA n pend prev unr (.slice none 0 0) 0) procs links srch walk waitedAt floor) (p : ByteArray) (hops : Int) (vp vs : ByteArray) :
    Calls Yba.prog 40 #[.pointer (some ⟨n + 5, 21, none⟩), .agg (dcl6 0 p hops vp vs)] w fun e w' => ∃ rg rc Z, e = .returned (.tuple #[]) ∧ Road w' n (siteA n pend prev unr (.slice (some ⟨rg, 0, none⟩) 1 rc) 1) procs links srch walk waitedAt floor ∧
      w'.heap[rg]? = some (.cells (dcl6 1 p hops vp vs ++ Z) 71) ∧ w.heap.size ≤ rg ∧ Keep n w w' := by
  have c21 := cell_in h.site 21
  have c23 := cell_in h.site 23
  have c24 := cell_in h.site 24
  have f21 := free_in h.site 21
  have f23 := free_in h.site 23
  have l5 := lt_in h.site
  simp [siteA] at c21 c23 c24
  have HH := hide h
  clear h
  unfold dcl6
  go_enter Yba.func40, Yba.ntmps40
  go_wp2
  go_region
  have hroom := room71
  have l5b : n + 5 < w.heap.size + 1 := by omega
  have l5c : n + 5 < w.heap.size + 1 + 1 := by omega
  have l5d : n + 5 < w.heap.size + 1 + 1 + 1 := by omega
  go_wp2
  go_region
  go_wp2
  generalize (Question.appendCap 1 0 71).cut (w.tape (w.drawn + 1 + 1) (Question.appendCap 1 0 71)) = rc
  generalize Builtin.zeroCells #[.int .u64 0, .string ⟨#[]⟩, .int .i64 0, .int .i64 0, .string ⟨#[]⟩, .string ⟨#[]⟩] (rc - 1) = Z
  refine bodyPost_ret (v := .tuple #[]) (results_none (by rfl) _ _ _) rfl ⟨w.heap.size + 1 + 1, rc, Z, rfl, ?_, ?_, by omega, ?_⟩
  · exact ((((((HH.out.s23 1).s21 _).alloc _).alloc _).alloc _).drew.drew).drew
  · rw [heap_drew, heap_drew, heap_drew, heap_alloc_at _ _ (by simp)]
  · exact (((((((((Keep.refl n w).site 23 _).site 21 _).alloc _).alloc _).alloc _).drew).drew)).drew

theorem sDecl {W : World} {b : Nat} {ini home vp vs : ByteArray} {num back : Int} {dcl : Bool} (hq : W.heap[n + 12]? = some (.cells (srchA n ini home num back rw dcl) 42)) (hv : W.heap[b]? = some (.cells #[.string vp, .string vs] 65)) :
    W.cell? ⟨n + 12, 0, none⟩ = some (.string ini) ∧ W.cell? ⟨n + 12, 4, none⟩ = some (.int .i64 0) ∧ W.cell? ⟨b, 0, none⟩ = some (.string vp) ∧ W.cell? ⟨b, 1, none⟩ = some (.string vs) :=
  ⟨(cell_in hq 0).trans rfl, (cell_in hq 4).trans rfl, (cell_in hv 0).trans rfl, (cell_in hv 1).trans rfl⟩

theorem addDecl_lit (h : Road w n (siteA n pend prev unr (.slice none 0 0) 0) procs links srch walk waitedAt floor) (p : ByteArray) (hops : Int) (vp vs : ByteArray) :
    Calls Yba.prog 40 #[.pointer (some ⟨n + 5, 21, none⟩), .agg #[.int .u64 0, .string p, .int .i64 0, .int .i64 hops, .string vp, .string vs]] w fun e w' => ∃ rg rc Z, e = .returned (.tuple #[]) ∧ Road w' n (siteA n pend prev unr (.slice (some ⟨rg, 0, none⟩) 1 rc) 1) procs links srch walk waitedAt floor ∧
      w'.heap[rg]? = some (.cells (dcl6 1 p hops vp vs ++ Z) 71) ∧ w.heap.size ≤ rg ∧ Keep n w w' := addDecl_any h p hops vp vs

set_option maxRecDepth 100000 in
set_option maxHeartbeats 3200000 in
theorem declare_any {home : ByteArray} {num back : Int} (h : Road w n (siteA n pend prev unr (.slice none 0 0) 0) (procsA n cost settled) (linksA false false) (srchA n ⟨#[97]⟩ home num back rw false) walk waitedAt floor) (hops : Int) (vp vs : ByteArray) :
    Calls Yba.prog 34 #[.pointer (some ⟨n + 5, 0, none⟩), .pointer (some ⟨n + 12, 0, none⟩), .int .i64 hops, .agg #[.string vp, .string vs]] w fun e w' => ∃ rg rc st : Nat, ∃ Z, e = .returned (.bool true) ∧
      Road w' n (siteA n pend prev unr (.slice (some ⟨rg, 0, none⟩) 1 rc) 1) (procsA n cost (.pointer (some ⟨st, 0, none⟩))) (linksA true true) (srchA n ⟨#[97]⟩ home num back rw true) walk waitedAt floor ∧
      w'.heap[rg]? = some (.cells (dcl6 1 ⟨#[97]⟩ hops vp vs ++ Z) 71) ∧ w'.heap[st]? = some (.cells #[.int .u64 num, .string ⟨#[97]⟩, .string ⟨#[83, 49]⟩, .string vp, .string vs, .bool false] 73) ∧ n + 15 ≤ rg ∧ n + 15 ≤ st ∧ Keep n w w' := by
  have hsz := h.size
  have q13 := cell_in h.srch 13
  have f13 := free_in h.srch 13
  have q0 := cell_in h.srch 0
  have l12 := lt_in h.srch
  simp [srchA] at q13 q0
  have HH := hide h
  clear h
  go_enter Yba.func34, Yba.ntmps34
  go_wp2_with fail
  have HR := (HH.out.q13 true).alloc (.cells #[.string vp, .string vs] 65)
  refine (own_a HR).mono ?_
  rintro e w1 ⟨rfl, rfl⟩
  have hK : Keep n w ((w.setCell ⟨n + 12, 13, none⟩ (.bool true)).alloc (.cells #[.string vp, .string vs] 65)) := ((Keep.refl n w).srch 13 _).alloc _
  have hv : ((w.setCell ⟨n + 12, 13, none⟩ (.bool true)).alloc (.cells #[.string vp, .string vs] 65)).heap[w.heap.size]? = some (.cells #[.string vp, .string vs] 65) := heap_alloc_at _ _ (by simp)
  clear HH q13 f13 q0 l12
  revert HR hK hv
  generalize (w.setCell ⟨n + 12, 13, none⟩ (.bool true)).alloc (.cells #[.string vp, .string vs] 65) = X
  intro HR hK hv
  have c0 := cell_in HR.site 0
  have c2 := cell_in HR.site 2
  have c4 := cell_in HR.site 4
  have q0 := cell_in HR.srch 0
  have q3 := cell_in HR.srch 3
  have q4 := cell_in HR.srch 4
  have p6 := cell_in HR.procs 6
  have f6 := free_in HR.procs 6
  have r3 := cell_in HR.links 3
  have r4 := cell_in HR.links 4
  have f3 := free_in HR.links 3
  have f4 := free_in HR.links 4
  have v0 := cell_in hv 0
  have v1 := cell_in hv 1
  simp [siteA, srchA, procsA, linksA] at c0 c2 c4 q0 q3 q4 p6 r3 r4 v0 v1
  have l5 := lt_in HR.site
  have l8 := lt_in HR.procs
  have l10 := lt_in HR.links
  have l12 := lt_in HR.srch
  have lv := lt_in hv
  have hv8 : ¬ (w.heap.size = n + 8) := by omega
  have hv10 : ¬ (w.heap.size = n + 10) := by omega
  have hv8' : ¬ (n + 8 = w.heap.size) := by omega
  have hv10' : ¬ (n + 10 = w.heap.size) := by omega
  have HX := hide HR
  have HKX := hide hK
  have HV := hide hv
  clear HR hK hv
  go_wp2
  go_region
  go_wp2
  go_region
  go_wp2
  have HR := (((((HX.out.p6 (.pointer (some ⟨X.heap.size, 0, none⟩))).l3 true).l4 true).alloc (.cells #[.int .u64 num, .string ⟨#[97]⟩, .string ⟨#[83, 49]⟩, .string vp, .string vs, .bool false] 73)).drew).drew
  have hK := (((((HKX.out.procs 6 (.pointer (some ⟨X.heap.size, 0, none⟩))).links 3 (.bool true)).links 4 (.bool true)).alloc (.cells #[.int .u64 num, .string ⟨#[97]⟩, .string ⟨#[83, 49]⟩, .string vp, .string vs, .bool false] 73)).drew).drew
  have hst : ((((((X.setCell ⟨n + 8, 6, none⟩ (.pointer (some ⟨X.heap.size, 0, none⟩))).setCell ⟨n + 10, 3, none⟩ (.bool true)).setCell ⟨n + 10, 4, none⟩ (.bool true)).alloc (.cells #[.int .u64 num, .string ⟨#[97]⟩, .string ⟨#[83, 49]⟩, .string vp, .string vs, .bool false] 73)).drew).drew).heap[X.heap.size]? = some (.cells #[.int .u64 num, .string ⟨#[97]⟩, .string ⟨#[83, 49]⟩, .string vp, .string vs, .bool false] 73) := by
    rw [heap_drew, heap_drew, heap_alloc_at _ _ (by simp)]
  have hv : ((((((X.setCell ⟨n + 8, 6, none⟩ (.pointer (some ⟨X.heap.size, 0, none⟩))).setCell ⟨n + 10, 3, none⟩ (.bool true)).setCell ⟨n + 10, 4, none⟩ (.bool true)).alloc (.cells #[.int .u64 num, .string ⟨#[97]⟩, .string ⟨#[83, 49]⟩, .string vp, .string vs, .bool false] 73)).drew).drew).heap[w.heap.size]? = some (.cells #[.string vp, .string vs] 65) := by
    rw [heap_drew, heap_drew, heap_alloc_past _ _ (by simpa using lv), Below.heap_setCell _ _ _ _ (by show w.heap.size ≠ n + 10; omega), Below.heap_setCell _ _ _ _ (by show w.heap.size ≠ n + 10; omega), Below.heap_setCell _ _ _ _ (by show w.heap.size ≠ n + 8; omega)]
    exact HV.out
  have lX : n + 15 ≤ X.heap.size := by omega
  clear HX HKX HV c0 c2 c4 q0 q3 q4 p6 f6 r3 r4 f3 f4 v0 v1
  revert HR hK hst hv
  generalize (((((X.setCell ⟨n + 8, 6, none⟩ (.pointer (some ⟨X.heap.size, 0, none⟩))).setCell ⟨n + 10, 3, none⟩ (.bool true)).setCell ⟨n + 10, 4, none⟩ (.bool true)).alloc (.cells #[.int .u64 num, .string ⟨#[97]⟩, .string ⟨#[83, 49]⟩, .string vp, .string vs, .bool false] 73)).drew).drew = Y
  intro HR hK hst hv
  have hsY := lt_in hst
  have hvY := lt_in hv
  have HY := hide HR
  have HKY := hide hK
  have HST := hide hst
  have HVY := hide hv
  clear HR hK hst hv
  have key := hide (addDecl_lit HY.out.drew ⟨#[97]⟩ hops vp vs)
  have hv5 : Hid (∀ w5, Keep n Y.drew w5 → w5.heap[w.heap.size]? = some (.cells #[.string vp, .string vs] 65)) := fun w5 hK5 => (hK5.block w.heap.size hvY (Or.inr hsz)).trans HVY.out
  go_region_held3 (fun w' => w'.cell? ⟨n + 12, 0, none⟩ = some (.string ⟨#[97]⟩) ∧ w'.cell? ⟨n + 12, 4, none⟩ = some (.int .i64 0) ∧ w'.cell? ⟨w.heap.size, 0, none⟩ = some (.string vp) ∧ w'.cell? ⟨w.heap.size, 1, none⟩ = some (.string vs))
    (first | exact sDecl HY.out.srch HVY.out | exact sDecl hR5.srch (hv5.out w5 hK5))
    (first | (go_at_call 40; refine key.out.mono ?_; rintro e w5 ⟨rg, rc, Z, rfl, hR5, hrg5, hrg, hK5⟩))
  go_wp2
  go_ret
  refine ⟨rg, rc, X.heap.size, Z, rfl, hR5, hrg5, ?_, ?_, lX, HKY.out.drew.trans hK5⟩
  · rw [hK5.block X.heap.size hsY (Or.inr lX)]; exact HST.out
  · have hrg' : Y.heap.size ≤ rg := hrg
    omega
end
end Go.Proofs.Ybulkbviq
