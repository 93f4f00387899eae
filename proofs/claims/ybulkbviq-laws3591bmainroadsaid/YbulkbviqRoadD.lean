/-
  The main road: own, goesBefore, firstByID, rankAsVictims, settleWay.
-/
import Derived.Test.YbulkbviqRoadC
import Derived.WalkKit
import Derived.WalkSpells
import Derived.WalkLawsBesides
import Derived.Handy
import Derived.Deep.RegionHeld3
import Derived.Deep.DrawnRows
import Derived.BigRegion
import Derived.BigQuiet
namespace Go.Proofs.Ybulkbviq
open Go.RowKit Go.ChangeMaps
attribute [local go_sem ↓] Go.wp_at_zero Go.wp_at_succ

theorem find_a3 : Instr.findNow .string (.string ⟨#[97]⟩) #[ea, eb, ec].toList 0 = some (some (0, .int .i64 0)) := by kernel_rfl
theorem find_b3 : Instr.findNow .string (.string ⟨#[98]⟩) #[ea, eb, ec].toList 0 = some (some (1, .int .i64 1)) := by kernel_rfl
theorem find_x3 : Instr.findNow .string (.string ⟨#[120]⟩) #[ea, eb, ec].toList 0 = some Option.none := by kernel_rfl
theorem find_q3 : Instr.findNow .string (.string ⟨#[113]⟩) #[ea, eb, ec].toList 0 = some Option.none := by kernel_rfl
theorem zero3 (w : World) : (zeroValue 3).run Yba.prog w = .ok (.int .i64 0) w := by kernel_rfl

section
variable {w : World} {n : Nat} {pend prev ring settled rw : Value} {unr made cost : Int} {site procs links srch walk : Array Value} {waitedAt floor : Int}

theorem look_a (h : w.heap[n + 1]? = some (.map #[ea, eb, ec] 3)) : (Instr.lookup 47 (.map (some (n + 1))) (.string ⟨#[97]⟩) true).run Yba.prog w = .ok (.tuple #[.int .i64 0, .bool true]) w := run_look_ok true Yba.underlying47 Yba.underlying9 h find_a3
theorem look_b (h : w.heap[n + 1]? = some (.map #[ea, eb, ec] 3)) : (Instr.lookup 47 (.map (some (n + 1))) (.string ⟨#[98]⟩) true).run Yba.prog w = .ok (.tuple #[.int .i64 1, .bool true]) w := run_look_ok true Yba.underlying47 Yba.underlying9 h find_b3
theorem look_x (h : w.heap[n + 1]? = some (.map #[ea, eb, ec] 3)) : (Instr.lookup 47 (.map (some (n + 1))) (.string ⟨#[120]⟩) true).run Yba.prog w = .ok (.tuple #[.int .i64 0, .bool false]) w := run_look_no true Yba.underlying47 Yba.underlying9 h (zero3 w) find_x3
theorem look_q (h : w.heap[n + 1]? = some (.map #[ea, eb, ec] 3)) : (Instr.lookup 47 (.map (some (n + 1))) (.string ⟨#[113]⟩) true).run Yba.prog w = .ok (.tuple #[.int .i64 0, .bool false]) w := run_look_no true Yba.underlying47 Yba.underlying9 h (zero3 w) find_q3

set_option maxRecDepth 100000 in
theorem own_a (h : Road w n (siteA n pend prev unr ring made) (procsA n cost settled) links srch walk waitedAt floor) :
    Calls Yba.prog 31 #[.pointer (some ⟨n + 5, 0, none⟩), .string ⟨#[97]⟩] w fun e w' => e = .returned (.int .i64 0) ∧ w' = w := by
  have hl := look_a h.index
  have c1 := cell_in h.site 1
  have c2 := cell_in h.site 2
  have p0 := cell_in h.procs 0
  simp [siteA, procsA] at c1 c2 p0
  clear h
  go_enter Yba.func31, Yba.ntmps31
  go_wp2
  go_ret
  exact ⟨rfl, rfl⟩

set_option maxRecDepth 100000 in
theorem own_x (h : Road w n (siteA n pend prev unr ring made) procs links srch walk waitedAt floor) :
    Calls Yba.prog 31 #[.pointer (some ⟨n + 5, 0, none⟩), .string ⟨#[120]⟩] w fun e w' => e = .returned (.int .i64 (-1)) ∧ w' = w := by
  have hl := look_x h.index
  have c1 := cell_in h.site 1
  simp [siteA] at c1
  clear h
  go_enter Yba.func31, Yba.ntmps31
  go_wp2
  go_ret
  exact ⟨rfl, rfl⟩

set_option maxRecDepth 100000 in
theorem len3 (w : World) : Calls Yba.prog 36 #[.int .u64 3] w fun e w' => e = .returned (.int .i64 2) ∧ w' = w := by
  go_enter Yba.func36, Yba.ntmps36
  go_wp2
  go_ret
  exact ⟨by kernel_rfl, rfl⟩

/-- 'a > b' on strings; 'goesBefore'. -/
def gtB (a b : ByteArray) : Bool := !Op.bytesLess a.toList b.toList && !(a.toList == b.toList)
def gbB (ca cb : Int) (a b : ByteArray) : Bool := if ca = cb then gtB a b else decide (ca < cb)

set_option maxRecDepth 100000 in
theorem goesBefore_any (ca cb : Int) (a b : ByteArray) (w : World) :
    Calls Yba.prog 28 #[.int .u64 ca, .string a, .int .u64 cb, .string b] w fun e w' => e = .returned (.bool (gbB ca cb a b)) ∧ w' = w := by
  by_cases h : ca = cb
  · subst h
    have e : gbB ca ca a b = gtB a b := by simp [gbB]
    rw [e]
    unfold gtB
    go_enter Yba.func28, Yba.ntmps28
    go_wp2
    go_ret
    exact ⟨rfl, rfl⟩
  · have e : gbB ca cb a b = decide (ca < cb) := by simp [gbB, h]
    rw [e]
    have hb : (ca != cb) = true := by simpa using h
    have hb2 : (ca == cb) = false := by simpa using h
    clear e
    go_enter Yba.func28, Yba.ntmps28
    go_wp2
    go_ret
    exact ⟨rfl, rfl⟩

theorem gb_self (c : Int) (a : ByteArray) : gbB c c a a = false := by simp [gbB, gtB]

set_option maxRecDepth 100000 in
set_option maxHeartbeats 1600000 in
theorem before_any (h : Road w n (siteA n pend prev unr ring made) (procsA n cost settled) links srch walk waitedAt floor) :
    Calls Yba.prog 39 #[.pointer (some ⟨n + 5, 0, none⟩), .int .i64 0, .int .i64 0] w fun e w' => e = .returned (.bool false) ∧ w' = w.drew := by
  have c2 := cell_in h.site 2
  have c3 := cell_in h.site 3
  have p2 := cell_in h.procs 2
  have n0 := cell_in h.names 0
  simp [siteA, procsA, namesA] at c2 c3 p2 n0
  clear h
  go_enter Yba.func39, Yba.ntmps39
  go_wp2
  go_region_held3 (fun w' => w'.cell? ⟨n + 5, 2, none⟩ = some (.slice (some ⟨n + 8, 0, none⟩) 3 3) ∧ w'.cell? ⟨n + 5, 3, none⟩ = some (.slice (some ⟨n + 9, 0, none⟩) 3 3) ∧ w'.cell? ⟨n + 8, 2, none⟩ = some (.int .u64 cost) ∧ w'.cell? ⟨n + 9, 0, none⟩ = some (.string ⟨#[97]⟩)) (go_keep)
    (first | (go_at_call 28; refine (goesBefore_any _ _ _ _ _).mono ?_; rintro e w' ⟨rfl, rfl⟩))
  go_wp2
  go_ret
  exact ⟨by rw [gb_self]; rfl, rfl⟩

set_option maxRecDepth 100000 in
set_option maxHeartbeats 1600000 in
theorem firstByID_any (h : Road w n (siteA n pend prev 0 ring made) (procsA n cost settled) links srch walk waitedAt floor) :
    Calls Yba.prog 32 #[.pointer (some ⟨n + 5, 0, none⟩), .int .i64 0, .int .i64 0] w fun e w' => e = .returned (.int .i64 0) ∧ w' = (w.setCell ⟨n + 5, 20, none⟩ (.int .i64 1)).drew := by
  have c20 := cell_in h.site 20
  have f20 := free_in h.site 20
  simp [siteA] at c20
  have HH : Hid (Road w n (siteA n pend prev 0 ring made) (procsA n cost settled) links srch walk waitedAt floor) := h
  clear h
  go_enter Yba.func32, Yba.ntmps32
  go_wp2_with fail
  refine (before_any (HH.out.s20 1)).mono ?_
  rintro e w1 ⟨rfl, rfl⟩
  go_wp2
  go_ret
  exact ⟨rfl, rfl⟩

set_option maxRecDepth 100000 in
set_option maxHeartbeats 1600000 in
theorem rank_any (h : Road w n (siteA n pend prev 0 ring made) procs links srch walk waitedAt floor) :
    Calls Yba.prog 30 #[.pointer (some ⟨n + 5, 0, none⟩)] w fun e w' => e = .returned (.tuple #[]) ∧ w' = (w.alloc (.cells #[.pointer (some ⟨n + 5, 0, none⟩)] 25)).drew := by
  have c2 := cell_in h.site 2
  have c20 := cell_in h.site 20
  have l5 := lt_in h.site
  simp [siteA] at c2 c20
  clear h
  go_enter Yba.func30, Yba.ntmps30
  go_wp2
  go_region_held3 (fun w' => w'.cell? ⟨n + 5, 20, none⟩ = some (.int .i64 0) ∧ w'.cell? ⟨w.heap.size, 0, none⟩ = some (.pointer (some ⟨n + 5, 0, none⟩))) (go_keep)
    (first | (go_at_call 36; refine (len3 _).mono ?_; rintro e w' ⟨rfl, rfl⟩))
  go_wp2
  exact bodyPost_ret (v := .tuple #[]) (results_none (by rfl) _ _ _) rfl ⟨rfl, rfl⟩

end
end Go.Proofs.Ybulkbviq
