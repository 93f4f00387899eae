/-
  The main road: declareRing.
-/
import Derived.Test.YbulkbviqRoadG
import Derived.WalkKit
import Derived.WalkSpells
import Derived.WalkLawsBesides
import Derived.Handy
import Derived.Deep.RegionHeld3
import Derived.Deep.DrawnRows
import Derived.BigRegion
import Derived.BigQuiet
namespace Go.Proofs.Ybulkbviq
open Go.RowKit Go.ChangeMaps
attribute [local go_sem ↓] Go.wp_at_zero Go.wp_at_succ

section
variable {w : World} {n : Nat} {pend prev ring settled rw : Value} {unr made cost : Int} {site procs links srch walk : Array Value} {waitedAt floor : Int}

/-- The cells of the notice to the victim. -/
def nMsg (num : Int) (vp vs : ByteArray) : Array Value :=
  #[.int .i64 3, .string ⟨#[97]⟩, .int .u64 num, .string ⟨#[97]⟩, .string ⟨#[83, 49]⟩, .string vp, .string vs, .int .i64 0, .string ⟨#[]⟩, .string ⟨#[]⟩, .int .u64 0, .int .u64 0, .string ⟨#[]⟩, .int .u64 0]

theorem sRing {W : World} {b : Nat} {ini home vp vs : ByteArray} {num back : Int} {dcl : Bool} (hq : W.heap[n + 12]? = some (.cells (srchA n ini home num back rw dcl) 42)) (hv : W.heap[b]? = some (.cells #[.string vp, .string vs] 65)) :
    W.cell? ⟨n + 12, 0, none⟩ = some (.string ini) ∧ W.cell? ⟨n + 12, 3, none⟩ = some (.int .u64 num) ∧ W.cell? ⟨b, 0, none⟩ = some (.string vp) ∧ W.cell? ⟨b, 1, none⟩ = some (.string vs) :=
  ⟨(cell_in hq 0).trans rfl, (cell_in hq 3).trans rfl, (cell_in hv 0).trans rfl, (cell_in hv 1).trans rfl⟩

set_option maxRecDepth 100000 in
set_option maxHeartbeats 3200000 in
theorem declareRing_any {home : ByteArray} {num back : Int} (h : Road w n (siteA n pend prev unr (.slice none 0 0) 0) (procsA n cost settled) (linksA false false) (srchA n ⟨#[97]⟩ home num back rw false) walk waitedAt floor) (hops : Int) (vp vs : ByteArray) :
    Calls Yba.prog 18 #[.pointer (some ⟨n + 5, 0, none⟩), .pointer (some ⟨n + 12, 0, none⟩), .int .i64 hops, .agg #[.string vp, .string vs]] w fun e w' => ∃ og rg rc st : Nat, ∃ Z, e = .returned (.slice (some ⟨og, 0, none⟩) 1 1) ∧
      Road w' n (siteA n pend prev unr (.slice (some ⟨rg, 0, none⟩) 1 rc) 1) (procsA n cost (.pointer (some ⟨st, 0, none⟩))) (linksA true true) (srchA n ⟨#[97]⟩ home num back rw true) walk waitedAt floor ∧
      w'.heap[rg]? = some (.cells (dcl6 1 ⟨#[97]⟩ hops vp vs ++ Z) 71) ∧ w'.heap[st]? = some (.cells #[.int .u64 num, .string ⟨#[97]⟩, .string ⟨#[83, 49]⟩, .string vp, .string vs, .bool false] 73) ∧ w'.heap[og]? = some (.cells (nMsg num vp vs) 31) ∧ n + 15 ≤ rg ∧ n + 15 ≤ st ∧ n + 15 ≤ og ∧ Keep n w w' := by
  have hsz := h.size
  have HH := hide h
  clear h
  go_enter Yba.func18, Yba.ntmps18
  go_wp2_with fail
  refine (declare_any (HH.out.alloc (.cells #[.string vp, .string vs] 65)) hops vp vs).mono ?_
  rintro e w1 ⟨rg, rc, st, Z, rfl, hR, hrg, hst, nrg, nst, hK⟩
  have hv : w1.heap[w.heap.size]? = some (.cells #[.string vp, .string vs] 65) := (hK.block w.heap.size (by simp) (Or.inr hsz)).trans (heap_alloc_at _ _ rfl)
  have hlv := lt_in hv
  have hlr := lt_in hrg
  have hls := lt_in hst
  have l5 := lt_in hR.site
  have l12 := lt_in hR.srch
  have HR := hide hR
  have HK := hide hK
  have HV := hide hv
  have HRG := hide hrg
  have HST := hide hst
  clear hR hK hv hrg hst
  go_wp2
  have key := hide (victimMessage_at (n + 5) 0 3 ⟨#[97]⟩ num ⟨#[97]⟩ ⟨#[83, 49]⟩ vp vs w1.drew l5 ((cell_in HR.out.site 0).trans rfl))
  have HR2 := hide ((((HR.out.drew).alloc (.cells #[.string vp, .string vs] 65)).alloc (.cells #[.int .i64 3, .string ⟨#[97]⟩, .int .u64 num, .string ⟨#[97]⟩, .string ⟨#[83, 49]⟩, .string vp, .string vs, .int .i64 0, .string ⟨#[]⟩, .string ⟨#[]⟩, .int .u64 0, .int .u64 0, .string ⟨#[]⟩, .int .u64 0] 31)).drew)
  have HV2 : Hid (((((w1.drew).alloc (.cells #[.string vp, .string vs] 65)).alloc (.cells #[.int .i64 3, .string ⟨#[97]⟩, .int .u64 num, .string ⟨#[97]⟩, .string ⟨#[83, 49]⟩, .string vp, .string vs, .int .i64 0, .string ⟨#[]⟩, .string ⟨#[]⟩, .int .u64 0, .int .u64 0, .string ⟨#[]⟩, .int .u64 0] 31)).drew).heap[w.heap.size]? = some (.cells #[.string vp, .string vs] 65)) := by
    show _ = _
    rw [heap_drew, heap_alloc_past _ _ (by simp; omega), heap_alloc_past _ _ (by simpa using hlv), heap_drew]; exact HV.out
  go_region_held3 (fun w' => w'.cell? ⟨n + 12, 0, none⟩ = some (.string ⟨#[97]⟩) ∧ w'.cell? ⟨n + 12, 3, none⟩ = some (.int .u64 num) ∧ w'.cell? ⟨w.heap.size, 0, none⟩ = some (.string vp) ∧ w'.cell? ⟨w.heap.size, 1, none⟩ = some (.string vs))
    (first | exact sRing HR.out.srch HV.out | exact sRing HR2.out.srch HV2.out | exact sRing (HR2.out.alloc _).srch ((heap_alloc_past _ _ (lt_in HV2.out)).trans HV2.out))
    (first | (go_at_call 19; refine key.out.mono ?_; rintro e w5 ⟨rfl, rfl⟩; unfold vMsg))
  go_wp2
  go_ret
  refine ⟨w1.heap.size + 1 + 1, rg, rc, st, Z, rfl, ?_, ?_, ?_, ?_, nrg, nst, ?_, ?_⟩
  · exact ((((HR.out.alloc _).alloc _).alloc _).drew).drew
  · rw [heap_drew, heap_drew, heap_alloc_past _ _ (by simp; omega), heap_alloc_past _ _ (by simp; omega), heap_alloc_past _ _ hlr]; exact HRG.out
  · rw [heap_drew, heap_drew, heap_alloc_past _ _ (by simp; omega), heap_alloc_past _ _ (by simp; omega), heap_alloc_past _ _ hls]; exact HST.out
  · rw [heap_drew, heap_drew, heap_alloc_at _ _ (by simp)]; rfl
  · have := HR.out.size
    omega
  · exact ((((((((Keep.refl n w).alloc _).trans HK.out).alloc _).alloc _).alloc _).drew)).drew
end
end Go.Proofs.Ybulkbviq
