/-
  zzs3591bsetup: the site and the search that the law's input lays.
-/
import Derived.Test.YbulkbviqRoad
import Derived.WalkKit
import Derived.WalkSpells
namespace Go.Proofs.Ybulkbviq
open Go.RowKit Go.ChangeMaps

/-- The input, as the law's own struct. -/
def inV (costA maxCost waitedAt walkNum cWalk sent number floor : Int) (maxName maxSite : ByteArray) (detect unknown : Bool) (back : Int) : Array Value :=
  #[.int .u64 costA, .int .u64 maxCost, .int .u64 waitedAt, .int .u64 walkNum, .int .u64 cWalk, .int .u64 sent, .int .u64 number, .int .u64 floor, .string maxName, .string maxSite, .bool detect, .bool unknown, .int .i64 back]

theorem find_b : Instr.findNow .string (.string ⟨#[98]⟩) #[ea].toList 0 = some Option.none := by kernel_rfl
theorem find_c : Instr.findNow .string (.string ⟨#[99]⟩) #[ea, eb].toList 0 = some Option.none := by kernel_rfl

/-- Fifteen new blocks that are the road. -/
theorem road_of (w : World) (o0 o2 o3 o4 o13 : Obj) (site procs links srch walk : Array Value) (waitedAt floor : Int) :
    Road (allocs w [o0, .map #[ea, eb, ec] 3, o2, o3, o4, .cells site 63, .cells #[.int .i64 1] 3, .cells #[.int .u64 waitedAt] 22, .cells procs 46, .cells namesA 65, .cells links 69, .cells #[.int .u64 floor] 22, .cells srch 42, o13, .cells walk 84]) w.heap.size site procs links srch walk waitedAt floor := by
  have g := allocs_get [o0, .map #[ea, eb, ec] 3, o2, o3, o4, .cells site 63, .cells #[.int .i64 1] 3, .cells #[.int .u64 waitedAt] 22, .cells procs 46, .cells namesA 65, .cells links 69, .cells #[.int .u64 floor] 22, .cells srch 42, o13, .cells walk 84] w
  exact ⟨g 1 (by simp), g 5 (by simp), g 6 (by simp), g 7 (by simp), g 8 (by simp), g 9 (by simp), g 10 (by simp), g 11 (by simp), g 12 (by simp), g 14 (by simp), by rw [allocs_size]; simp⟩

set_option maxRecDepth 100000 in
set_option maxHeartbeats 1600000 in
theorem setup_no (costA maxCost waitedAt walkNum cWalk sent number floor : Int) (maxName maxSite : ByteArray) (unknown : Bool) (back : Int) (w : World) :
    Calls Yba.prog 6 #[.agg (inV costA maxCost waitedAt walkNum cWalk sent number floor maxName maxSite false unknown back)] w fun e w' =>
      e = .returned (.tuple #[.pointer (some ⟨w.heap.size + 5, 0, none⟩), .pointer (some ⟨w.heap.size + 12, 0, none⟩)]) ∧
      Road w' w.heap.size (siteA w.heap.size (.slice none 0 0) (.slice none 0 0) 0 (.slice none 0 0) 0) (procsA w.heap.size costA (.pointer none)) (linksA false false) (srchA w.heap.size ⟨#[120]⟩ ⟨#[72]⟩ number back (.slice none 0 0) false) (walkA walkNum (2) sent) waitedAt floor ∧
      Below w.heap.size w w' := by
  unfold inV
  have hmm := @run_makeMap Yba.prog
  have hu0 := fun (o : Obj) => run_upd_allocs (((w.alloc (.cells (inV costA maxCost waitedAt walkNum cWalk sent number floor maxName maxSite false unknown back) 24)).alloc (.map #[] 0)).alloc (.map #[] 0)) #[] 0 ⟨#[83, 49]⟩ (.pointer (some ⟨w.heap.size + 1 + 1 + 1 + 1, 0, none⟩)) [o] Yba.underlying52 rfl
  have hu1 := fun (o1 o2 o3 o4 o5 o6 o7 o8 o9 : Obj) => run_upd_allocs (w.alloc (.cells (inV costA maxCost waitedAt walkNum cWalk sent number floor maxName maxSite false unknown back) 24)) #[] 0 ⟨#[97]⟩ (.int .i64 0) [o1, o2, o3, o4, o5, o6, o7, o8, o9] Yba.underlying47 rfl
  have hu2 := fun (o1 o2 o3 o4 o5 o6 o7 o8 o9 : Obj) => run_upd_allocs (w.alloc (.cells (inV costA maxCost waitedAt walkNum cWalk sent number floor maxName maxSite false unknown back) 24)) #[ea] 1 ⟨#[98]⟩ (.int .i64 1) [o1, o2, o3, o4, o5, o6, o7, o8, o9] Yba.underlying47 find_b
  have hu3 := fun (o1 o2 o3 o4 o5 o6 o7 o8 o9 : Obj) => run_upd_allocs (w.alloc (.cells (inV costA maxCost waitedAt walkNum cWalk sent number floor maxName maxSite false unknown back) 24)) #[ea, eb] 2 ⟨#[99]⟩ (.int .i64 2) [o1, o2, o3, o4, o5, o6, o7, o8, o9] Yba.underlying47 find_c
  simp only [allocs, World.size_alloc, inV, ea, eb, List.push_toArray, List.nil_append, List.cons_append] at hu0 hu1 hu2 hu3
  go_enter Yba.func6, Yba.ntmps6
  go_wp2
  go_ret2
  refine ⟨rfl, ?_, ?_⟩
  · exact road_of w _ _ _ _ _ (siteA w.heap.size (.slice none 0 0) (.slice none 0 0) 0 (.slice none 0 0) 0) (procsA w.heap.size costA (.pointer none)) (linksA false false) (srchA w.heap.size ⟨#[120]⟩ ⟨#[72]⟩ number back (.slice none 0 0) false) (walkA walkNum (2) sent) waitedAt floor
  · exact allocs_below [_, _, _, _, _, _, _, _, _, _, _, _, _, _, _] w

set_option maxRecDepth 100000 in
set_option maxHeartbeats 1600000 in
theorem setup_yes (costA maxCost waitedAt walkNum cWalk sent number floor : Int) (maxName maxSite : ByteArray) (unknown : Bool) (back : Int) (w : World) :
    Calls Yba.prog 6 #[.agg (inV costA maxCost waitedAt walkNum cWalk sent number floor maxName maxSite true unknown back)] w fun e w' =>
      e = .returned (.tuple #[.pointer (some ⟨w.heap.size + 5, 0, none⟩), .pointer (some ⟨w.heap.size + 12, 0, none⟩)]) ∧
      Road w' w.heap.size (siteA w.heap.size (.slice none 0 0) (.slice none 0 0) 0 (.slice none 0 0) 0) (procsA w.heap.size costA (.pointer none)) (linksA false false) (srchA w.heap.size ⟨#[97]⟩ ⟨#[83, 49]⟩ number back (.slice none 0 0) false) (walkA walkNum (-1) sent) waitedAt floor ∧
      Below w.heap.size w w' := by
  unfold inV
  have hmm := @run_makeMap Yba.prog
  have hu0 := fun (o : Obj) => run_upd_allocs (((w.alloc (.cells (inV costA maxCost waitedAt walkNum cWalk sent number floor maxName maxSite true unknown back) 24)).alloc (.map #[] 0)).alloc (.map #[] 0)) #[] 0 ⟨#[83, 49]⟩ (.pointer (some ⟨w.heap.size + 1 + 1 + 1 + 1, 0, none⟩)) [o] Yba.underlying52 rfl
  have hu1 := fun (o1 o2 o3 o4 o5 o6 o7 o8 o9 : Obj) => run_upd_allocs (w.alloc (.cells (inV costA maxCost waitedAt walkNum cWalk sent number floor maxName maxSite true unknown back) 24)) #[] 0 ⟨#[97]⟩ (.int .i64 0) [o1, o2, o3, o4, o5, o6, o7, o8, o9] Yba.underlying47 rfl
  have hu2 := fun (o1 o2 o3 o4 o5 o6 o7 o8 o9 : Obj) => run_upd_allocs (w.alloc (.cells (inV costA maxCost waitedAt walkNum cWalk sent number floor maxName maxSite true unknown back) 24)) #[ea] 1 ⟨#[98]⟩ (.int .i64 1) [o1, o2, o3, o4, o5, o6, o7, o8, o9] Yba.underlying47 find_b
  have hu3 := fun (o1 o2 o3 o4 o5 o6 o7 o8 o9 : Obj) => run_upd_allocs (w.alloc (.cells (inV costA maxCost waitedAt walkNum cWalk sent number floor maxName maxSite true unknown back) 24)) #[ea, eb] 2 ⟨#[99]⟩ (.int .i64 2) [o1, o2, o3, o4, o5, o6, o7, o8, o9] Yba.underlying47 find_c
  simp only [allocs, World.size_alloc, inV, ea, eb, List.push_toArray, List.nil_append, List.cons_append] at hu0 hu1 hu2 hu3
  go_enter Yba.func6, Yba.ntmps6
  go_wp2
  go_ret2
  refine ⟨rfl, ?_, ?_⟩
  · exact road_of w _ _ _ _ _ (siteA w.heap.size (.slice none 0 0) (.slice none 0 0) 0 (.slice none 0 0) 0) (procsA w.heap.size costA (.pointer none)) (linksA false false) (srchA w.heap.size ⟨#[97]⟩ ⟨#[83, 49]⟩ number back (.slice none 0 0) false) (walkA walkNum (-1) sent) waitedAt floor
  · exact allocs_below [_, _, _, _, _, _, _, _, _, _, _, _, _, _, _] w

end Go.Proofs.Ybulkbviq
