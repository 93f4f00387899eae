/-
  The main road: firstOf, candidateAt, message, confirmation.
-/
import Derived.Test.YbulkbviqRoadE
import Derived.WalkKit
import Derived.WalkSpells
import Derived.WalkLawsBesides
import Derived.Handy
import Derived.Deep.RegionHeld3
import Derived.Deep.DrawnRows
import Derived.BigRegion
import Derived.BigQuiet
namespace Go.Proofs.Ybulkbviq
open Go.RowKit Go.ChangeMaps
attribute [local go_sem ↓] Go.wp_at_zero Go.wp_at_succ

theorem hide {p : Prop} (h : p) : Hid p := h

section
variable {w : World} {n : Nat} {pend prev ring settled rw : Value} {unr made cost : Int} {site procs links srch walk : Array Value} {waitedAt floor : Int}

theorem goesBefore_is {r : Bool} (ca cb : Int) (a b : ByteArray) (h : gbB ca cb a b = r) (w : World) :
    Calls Yba.prog 28 #[.int .u64 ca, .string a, .int .u64 cb, .string b] w fun e w' => e = .returned (.bool r) ∧ w' = w := by
  rw [← h]; exact goesBefore_any ca cb a b w

set_option maxRecDepth 100000 in
set_option maxHeartbeats 1600000 in
theorem candidateAt_any (h : Road w n (siteA n pend prev unr ring made) (procsA n cost settled) links srch walk waitedAt floor) :
    Calls Yba.prog 29 #[.pointer (some ⟨n + 5, 0, none⟩), .int .i64 0] w fun e w' => e = .returned (.agg #[.string ⟨#[97]⟩, .string ⟨#[83, 49]⟩, .int .u64 cost]) ∧ w' = (w.alloc (.cells #[.string ⟨#[97]⟩, .string ⟨#[83, 49]⟩, .int .u64 cost] 91)).drew := by
  have c2 := cell_in h.site 2
  have c3 := cell_in h.site 3
  have p2 := cell_in h.procs 2
  have n0 := cell_in h.names 0
  have n1 := cell_in h.names 1
  have l5 := lt_in h.site
  have l8 := lt_in h.procs
  have l9 := lt_in h.names
  simp [siteA, procsA, namesA] at c2 c3 p2 n0 n1
  clear h
  go_enter Yba.func29, Yba.ntmps29
  go_wp2
  go_region
  go_wp2
  exact bodyPost_ret (v := .agg #[.string ⟨#[97]⟩, .string ⟨#[83, 49]⟩, .int .u64 cost]) (by simp [results, Yba.results29, go_sem]) rfl ⟨rfl, rfl⟩

set_option maxRecDepth 100000 in
set_option maxHeartbeats 1600000 in
theorem firstOf_yes (h : Road w n (siteA n pend prev unr ring made) (procsA n cost settled) links srch walk waitedAt floor) (mn ms : ByteArray) (mc : Int) (hgb : gbB cost mc ⟨#[97]⟩ mn = true) :
    Calls Yba.prog 15 #[.pointer (some ⟨n + 5, 0, none⟩), .agg #[.string mn, .string ms, .int .u64 mc], .int .i64 0] w fun e w' => e = .returned (.agg #[.string ⟨#[97]⟩, .string ⟨#[83, 49]⟩, .int .u64 cost]) ∧ Below w.heap.size w w' := by
  have c2 := cell_in h.site 2
  have c3 := cell_in h.site 3
  have p2 := cell_in h.procs 2
  have n0 := cell_in h.names 0
  have l5 := lt_in h.site
  have l8 := lt_in h.procs
  have l9 := lt_in h.names
  simp [siteA, procsA, namesA] at c2 c3 p2 n0
  have HH : Hid (Road w n (siteA n pend prev unr ring made) (procsA n cost settled) links srch walk waitedAt floor) := h
  clear h
  have HG : Hid (gbB cost mc ⟨#[97]⟩ mn = true) := hgb
  clear hgb
  go_enter Yba.func15, Yba.ntmps15
  go_wp2
  have HR := (HH.out.alloc (.cells #[.string mn, .string ms, .int .u64 mc] 91)).alloc (.cells #[.string ⟨#[]⟩, .string ⟨#[]⟩, .int .u64 0] 91)
  have hm0 : ((w.alloc (.cells #[.string mn, .string ms, .int .u64 mc] 91)).alloc (.cells #[.string ⟨#[]⟩, .string ⟨#[]⟩, .int .u64 0] 91)).cell? ⟨w.heap.size, 0, none⟩ = some (.string mn) := by rw [World.cell?_alloc_past _ _ _ (by simp), World.cell?_alloc_at _ _ _ _ rfl]; rfl
  have hm2 : ((w.alloc (.cells #[.string mn, .string ms, .int .u64 mc] 91)).alloc (.cells #[.string ⟨#[]⟩, .string ⟨#[]⟩, .int .u64 0] 91)).cell? ⟨w.heap.size, 2, none⟩ = some (.int .u64 mc) := by rw [World.cell?_alloc_past _ _ _ (by simp), World.cell?_alloc_at _ _ _ _ rfl]; rfl
  have hk : ((w.alloc (.cells #[.string mn, .string ms, .int .u64 mc] 91)).alloc (.cells #[.string ⟨#[]⟩, .string ⟨#[]⟩, .int .u64 0] 91)).cell? ⟨n + 5, 2, none⟩ = some (.slice (some ⟨n + 8, 0, none⟩) 3 3) ∧ ((w.alloc (.cells #[.string mn, .string ms, .int .u64 mc] 91)).alloc (.cells #[.string ⟨#[]⟩, .string ⟨#[]⟩, .int .u64 0] 91)).cell? ⟨n + 5, 3, none⟩ = some (.slice (some ⟨n + 9, 0, none⟩) 3 3) ∧ ((w.alloc (.cells #[.string mn, .string ms, .int .u64 mc] 91)).alloc (.cells #[.string ⟨#[]⟩, .string ⟨#[]⟩, .int .u64 0] 91)).cell? ⟨n + 8, 2, none⟩ = some (.int .u64 cost) ∧ ((w.alloc (.cells #[.string mn, .string ms, .int .u64 mc] 91)).alloc (.cells #[.string ⟨#[]⟩, .string ⟨#[]⟩, .int .u64 0] 91)).cell? ⟨n + 9, 0, none⟩ = some (.string ⟨#[97]⟩) ∧ ((w.alloc (.cells #[.string mn, .string ms, .int .u64 mc] 91)).alloc (.cells #[.string ⟨#[]⟩, .string ⟨#[]⟩, .int .u64 0] 91)).cell? ⟨w.heap.size, 0, none⟩ = some (.string mn) ∧ ((w.alloc (.cells #[.string mn, .string ms, .int .u64 mc] 91)).alloc (.cells #[.string ⟨#[]⟩, .string ⟨#[]⟩, .int .u64 0] 91)).cell? ⟨w.heap.size, 2, none⟩ = some (.int .u64 mc) :=
    ⟨(cell_in HR.site 2).trans rfl, (cell_in HR.site 3).trans rfl, (cell_in HR.procs 2).trans rfl, (cell_in HR.names 0).trans rfl, hm0, hm2⟩
  have HK := hide hk
  have HRR : Hid (Road ((w.alloc (.cells #[.string mn, .string ms, .int .u64 mc] 91)).alloc (.cells #[.string ⟨#[]⟩, .string ⟨#[]⟩, .int .u64 0] 91)) n (siteA n pend prev unr ring made) (procsA n cost settled) links srch walk waitedAt floor) := HR
  clear HR hm0 hm2 hk
  go_region_held3 (fun w' => w'.cell? ⟨n + 5, 2, none⟩ = some (.slice (some ⟨n + 8, 0, none⟩) 3 3) ∧ w'.cell? ⟨n + 5, 3, none⟩ = some (.slice (some ⟨n + 9, 0, none⟩) 3 3) ∧ w'.cell? ⟨n + 8, 2, none⟩ = some (.int .u64 cost) ∧ w'.cell? ⟨n + 9, 0, none⟩ = some (.string ⟨#[97]⟩) ∧ w'.cell? ⟨w.heap.size, 0, none⟩ = some (.string mn) ∧ w'.cell? ⟨w.heap.size, 2, none⟩ = some (.int .u64 mc))
    (exact HK.out)
    (first | (go_at_call 28; with_reducible refine (goesBefore_is _ _ _ _ HG.out _).mono ?_; rintro e w' ⟨rfl, rfl⟩))
  go_wp2_with fail
  refine (candidateAt_any HRR.out.drew).mono ?_
  rintro e w1 ⟨rfl, rfl⟩
  go_wp2
  refine bodyPost_ret (v := .agg #[.string ⟨#[97]⟩, .string ⟨#[83, 49]⟩, .int .u64 cost]) (by simp [results, Yba.results15, go_sem]) rfl ⟨rfl, ?_⟩
  exact (((((Below.refl _ _).alloc (Nat.le_refl _) _).alloc (by simp) _).alloc (by simp; omega) _).drew).drew

set_option maxRecDepth 100000 in
set_option maxHeartbeats 1600000 in
theorem firstOf_no (h : Road w n (siteA n pend prev unr ring made) (procsA n cost settled) links srch walk waitedAt floor) (mn ms : ByteArray) (mc : Int) (hgb : gbB cost mc ⟨#[97]⟩ mn = false) :
    Calls Yba.prog 15 #[.pointer (some ⟨n + 5, 0, none⟩), .agg #[.string mn, .string ms, .int .u64 mc], .int .i64 0] w fun e w' => e = .returned (.agg #[.string mn, .string ms, .int .u64 mc]) ∧ Below w.heap.size w w' := by
  have c2 := cell_in h.site 2
  have c3 := cell_in h.site 3
  have p2 := cell_in h.procs 2
  have n0 := cell_in h.names 0
  have l5 := lt_in h.site
  have l8 := lt_in h.procs
  have l9 := lt_in h.names
  simp [siteA, procsA, namesA] at c2 c3 p2 n0
  have HH : Hid (Road w n (siteA n pend prev unr ring made) (procsA n cost settled) links srch walk waitedAt floor) := h
  clear h
  have HG : Hid (gbB cost mc ⟨#[97]⟩ mn = false) := hgb
  clear hgb
  go_enter Yba.func15, Yba.ntmps15
  go_wp2
  have HR := (HH.out.alloc (.cells #[.string mn, .string ms, .int .u64 mc] 91)).alloc (.cells #[.string ⟨#[]⟩, .string ⟨#[]⟩, .int .u64 0] 91)
  have hm0 : ((w.alloc (.cells #[.string mn, .string ms, .int .u64 mc] 91)).alloc (.cells #[.string ⟨#[]⟩, .string ⟨#[]⟩, .int .u64 0] 91)).cell? ⟨w.heap.size, 0, none⟩ = some (.string mn) := by rw [World.cell?_alloc_past _ _ _ (by simp), World.cell?_alloc_at _ _ _ _ rfl]; rfl
  have hm2 : ((w.alloc (.cells #[.string mn, .string ms, .int .u64 mc] 91)).alloc (.cells #[.string ⟨#[]⟩, .string ⟨#[]⟩, .int .u64 0] 91)).cell? ⟨w.heap.size, 2, none⟩ = some (.int .u64 mc) := by rw [World.cell?_alloc_past _ _ _ (by simp), World.cell?_alloc_at _ _ _ _ rfl]; rfl
  have hk : ((w.alloc (.cells #[.string mn, .string ms, .int .u64 mc] 91)).alloc (.cells #[.string ⟨#[]⟩, .string ⟨#[]⟩, .int .u64 0] 91)).cell? ⟨n + 5, 2, none⟩ = some (.slice (some ⟨n + 8, 0, none⟩) 3 3) ∧ ((w.alloc (.cells #[.string mn, .string ms, .int .u64 mc] 91)).alloc (.cells #[.string ⟨#[]⟩, .string ⟨#[]⟩, .int .u64 0] 91)).cell? ⟨n + 5, 3, none⟩ = some (.slice (some ⟨n + 9, 0, none⟩) 3 3) ∧ ((w.alloc (.cells #[.string mn, .string ms, .int .u64 mc] 91)).alloc (.cells #[.string ⟨#[]⟩, .string ⟨#[]⟩, .int .u64 0] 91)).cell? ⟨n + 8, 2, none⟩ = some (.int .u64 cost) ∧ ((w.alloc (.cells #[.string mn, .string ms, .int .u64 mc] 91)).alloc (.cells #[.string ⟨#[]⟩, .string ⟨#[]⟩, .int .u64 0] 91)).cell? ⟨n + 9, 0, none⟩ = some (.string ⟨#[97]⟩) ∧ ((w.alloc (.cells #[.string mn, .string ms, .int .u64 mc] 91)).alloc (.cells #[.string ⟨#[]⟩, .string ⟨#[]⟩, .int .u64 0] 91)).cell? ⟨w.heap.size, 0, none⟩ = some (.string mn) ∧ ((w.alloc (.cells #[.string mn, .string ms, .int .u64 mc] 91)).alloc (.cells #[.string ⟨#[]⟩, .string ⟨#[]⟩, .int .u64 0] 91)).cell? ⟨w.heap.size, 2, none⟩ = some (.int .u64 mc) :=
    ⟨(cell_in HR.site 2).trans rfl, (cell_in HR.site 3).trans rfl, (cell_in HR.procs 2).trans rfl, (cell_in HR.names 0).trans rfl, hm0, hm2⟩
  have HK := hide hk
  have HRR : Hid (Road ((w.alloc (.cells #[.string mn, .string ms, .int .u64 mc] 91)).alloc (.cells #[.string ⟨#[]⟩, .string ⟨#[]⟩, .int .u64 0] 91)) n (siteA n pend prev unr ring made) (procsA n cost settled) links srch walk waitedAt floor) := HR
  clear HR hm0 hm2 hk
  go_region_held3 (fun w' => w'.cell? ⟨n + 5, 2, none⟩ = some (.slice (some ⟨n + 8, 0, none⟩) 3 3) ∧ w'.cell? ⟨n + 5, 3, none⟩ = some (.slice (some ⟨n + 9, 0, none⟩) 3 3) ∧ w'.cell? ⟨n + 8, 2, none⟩ = some (.int .u64 cost) ∧ w'.cell? ⟨n + 9, 0, none⟩ = some (.string ⟨#[97]⟩) ∧ w'.cell? ⟨w.heap.size, 0, none⟩ = some (.string mn) ∧ w'.cell? ⟨w.heap.size, 2, none⟩ = some (.int .u64 mc))
    (exact HK.out)
    (first | (go_at_call 28; with_reducible refine (goesBefore_is _ _ _ _ HG.out _).mono ?_; rintro e w' ⟨rfl, rfl⟩))
  go_wp2
  refine bodyPost_ret (v := .agg #[.string mn, .string ms, .int .u64 mc]) (by simp [results, Yba.results15, go_sem]) rfl ⟨rfl, ?_⟩
  exact (((Below.refl _ _).alloc (Nat.le_refl _) _).alloc (by simp) _).drew

/-- The confirmation that goes on: its cells. -/
def cMsg (ini home : ByteArray) (num : Int) (snd to site : ByteArray) (mn ms : ByteArray) (mc walk floor : Int) : Array Value :=
  #[.int .i64 4, .string ini, .int .u64 num, .string snd, .string ⟨#[83, 49]⟩, .string to, .string site, .int .i64 0, .string mn, .string ms, .int .u64 mc, .int .u64 walk, .string home, .int .u64 floor]

set_option maxRecDepth 100000 in
set_option maxHeartbeats 3200000 in
theorem message_any {ini home : ByteArray} {num back : Int} {dcl : Bool} (h : Road w n (siteA n pend prev unr ring made) procs links (srchA n ini home num back rw dcl) walk waitedAt floor) (snd to st : ByteArray) :
    Calls Yba.prog 33 #[.pointer (some ⟨n + 5, 0, none⟩), .int .i64 4, .pointer (some ⟨n + 12, 0, none⟩), .string snd, .string to, .string st] w fun e w' => e = .returned (.agg (cMsg ini home num snd to st ⟨#[]⟩ ⟨#[]⟩ 0 0 floor)) ∧ w' = (w.alloc (.cells (cMsg ini home num snd to st ⟨#[]⟩ ⟨#[]⟩ 0 0 floor) 31)).drew := by
  have c0 := cell_in h.site 0
  have q0 := cell_in h.srch 0
  have q1 := cell_in h.srch 1
  have q2 := cell_in h.srch 2
  have q3 := cell_in h.srch 3
  have fl := cell_in h.floor 0
  have l5 := lt_in h.site
  have l12 := lt_in h.srch
  have l11 := lt_in h.floor
  simp [siteA, srchA] at c0 q0 q1 q2 q3 fl
  clear h
  unfold cMsg
  go_enter Yba.func33, Yba.ntmps33
  go_wp2
  go_region
  go_wp2
  exact bodyPost_ret (v := .agg (cMsg ini home num snd to st ⟨#[]⟩ ⟨#[]⟩ 0 0 floor)) (by simp [results, Yba.results33, go_sem, cMsg]) rfl ⟨rfl, rfl⟩

set_option maxRecDepth 100000 in
set_option maxHeartbeats 3200000 in
theorem confirmation_any {ini home : ByteArray} {num back : Int} {dcl : Bool} (h : Road w n (siteA n pend prev unr ring made) procs links (srchA n ini home num back rw dcl) walk waitedAt floor) (snd to st mn ms : ByteArray) (sent mc : Int) :
    Calls Yba.prog 17 #[.pointer (some ⟨n + 5, 0, none⟩), .pointer (some ⟨n + 12, 0, none⟩), .string snd, .string to, .string st, .int .u64 sent, .agg #[.string mn, .string ms, .int .u64 mc]] w fun e w' => e = .returned (.agg (cMsg ini home num snd to st mn ms mc sent floor)) ∧ Below w.heap.size w w' := by
  have HH := hide h
  clear h
  go_enter Yba.func17, Yba.ntmps17
  go_wp2_with fail
  refine (message_any ((HH.out.alloc _).alloc _) snd to st).mono ?_
  rintro e w1 ⟨rfl, rfl⟩
  unfold cMsg
  go_wp2
  go_region
  go_wp2
  refine bodyPost_ret (v := .agg (cMsg ini home num snd to st mn ms mc sent floor)) (by simp [results, Yba.results17, go_sem, cMsg]) rfl ⟨rfl, ?_⟩
  exact ((((((Below.refl _ _).alloc (Nat.le_refl _) _).alloc (by simp) _).alloc (by simp; omega) _).alloc (by simp; omega) _).drew).drew

end
end Go.Proofs.Ybulkbviq
