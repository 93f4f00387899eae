/-
  The main road: held.
-/
import Derived.Test.YbulkbviqRoadB
import Derived.WalkKit
import Derived.WalkSpells
import Derived.Handy
import Derived.Deep.RegionHeld3
import Derived.Deep.DrawnRows
import Derived.BigRegion
import Derived.BigQuiet
namespace Go.Proofs.Ybulkbviq
open Go.RowKit Go.ChangeMaps
attribute [local go_sem ↓] Go.wp_at_zero Go.wp_at_succ

theorem below_of_grown {w w' : World} {q m : Nat} (h : w.grownBy w' (some q)) (hm : m ≤ q) (hq : m ≤ w.heap.size) : Below m w w' :=
  ⟨h.os, h.tape, h.output, h.size, fun k hk => h.block k (by omega) (by simp; omega)⟩

section
variable {w : World} {n : Nat} {ring settled : Value} {unr made cost : Int} {procs links srch walk : Array Value} {waitedAt floor : Int}

set_option maxRecDepth 100000 in
set_option maxHeartbeats 1600000 in
theorem held_no (h : Road w n (siteA n (.slice none 0 0) (.slice none 0 0) unr ring made) (procsA n cost settled) links srch walk waitedAt floor) (num snd sent : Int) (hlt : num ≤ waitedAt) :
    Calls Yba.prog 14 #[.pointer (some ⟨n + 5, 0, none⟩), .pointer (some ⟨n + 12, 0, none⟩), .agg #[.int .u64 num, .int .i64 0, .int .i64 snd, .int .u64 sent], .int .i64 0, .int .i64 1] w fun e w' => e = .returned (.bool false) ∧ Below w.heap.size w w' := by
  have HH : Hid (Road w n (siteA n (.slice none 0 0) (.slice none 0 0) unr ring made) (procsA n cost settled) links srch walk waitedAt floor) := h
  clear h
  go_enter Yba.func14, Yba.ntmps14
  go_wp2_with fail
  refine (waitsBefore_no (HH.out.alloc _) num (by omega)).mono ?_
  rintro e w1 ⟨rfl, rfl⟩
  go_wp2_with fail
  refine (contains_no _ _).mono ?_
  rintro e w1 ⟨rfl, rfl⟩
  go_wp2
  go_ret
  exact ⟨rfl, (Below.refl _ _).alloc (Nat.le_refl _) _⟩

set_option maxRecDepth 100000 in
set_option maxHeartbeats 1600000 in
theorem held_yes (h : Road w n (siteA n (.slice none 0 0) (.slice none 0 0) unr ring made) (procsA n cost settled) links srch walk waitedAt floor) (num snd sent : Int) (hlt : waitedAt < num) :
    Calls Yba.prog 14 #[.pointer (some ⟨n + 5, 0, none⟩), .pointer (some ⟨n + 12, 0, none⟩), .agg #[.int .u64 num, .int .i64 0, .int .i64 snd, .int .u64 sent], .int .i64 0, .int .i64 1] w fun e w' => ∃ pg pc g c : Nat, e = .returned (.bool true) ∧
      Road w' n (siteA n (.slice (some ⟨pg, 0, none⟩) 0 pc) (.slice (some ⟨g, 0, none⟩) 3 c) unr ring made) (procsA n cost settled) links srch walk waitedAt floor ∧ n + 15 ≤ g ∧ w'.cell? ⟨g, 0, none⟩ = some (.int .i64 (-1)) ∧ Keep n w w' := by
  have HH : Hid (Road w n (siteA n (.slice none 0 0) (.slice none 0 0) unr ring made) (procsA n cost settled) links srch walk waitedAt floor) := h
  have hsz := h.size
  clear h
  go_enter Yba.func14, Yba.ntmps14
  go_wp2_with fail
  refine (waitsBefore_yes (HH.out.alloc _) num hlt).mono ?_
  rintro e w1 ⟨rfl, rfl⟩
  go_wp2_with fail
  refine (contains_yes _ ?_).mono ?_
  · exact cell_in (HH.out.alloc _).waits 0
  rintro e w1 ⟨rfl, rfl⟩
  go_wp2_with fail
  refine (add_any (w.heap.size + 1 + 1) (w.heap.size + 1) _ ?_).mono ?_
  · exact heap_alloc_at _ _ (by simp)
  rintro e w2 ⟨rfl, hg2⟩
  have hb2 := below_of_grown (m := w.heap.size + 1 + 1) hg2 (Nat.le_refl _) (by simp)
  have hR2 := (((HH.out.alloc (.cells #[.int .u64 num, .int .i64 0, .int .i64 snd, .int .u64 sent] 84)).alloc (.cells #[] 22)).alloc (.cells #[.slice (some ⟨w.heap.size + 1, 0, none⟩) 0 0] 37)).below hb2 (by omega)
  have hx : ∀ k, k < w.heap.size → w2.heap[k]? = w.heap[k]? := fun k hk => by
    rw [hb2.block k (by omega), heap_alloc_past _ _ (by simp; omega), heap_alloc_past _ _ (by simp; omega), heap_alloc_past _ _ hk]
  have hK2 : Keep n w w2 := ⟨hb2.os, hb2.tape, hb2.output, by have := hb2.size; simp at this; omega, fun k hk _ => hx k hk⟩
  have hv : w2.heap[w.heap.size]? = some (.cells #[.int .u64 num, .int .i64 0, .int .i64 snd, .int .u64 sent] 84) := by
    rw [hb2.block _ (by omega), heap_alloc_past _ _ (by simp; omega), heap_alloc_past _ _ (by simp), heap_alloc_at _ _ rfl]
  have hs2 := hb2.size
  simp only [World.size_alloc] at hs2
  have hv1 := cell_in hv 1
  simp at hv1
  have H2 : Hid (Road w2 n (siteA n (.slice none 0 0) (.slice none 0 0) unr ring made) (procsA n cost settled) links srch walk waitedAt floor) := hR2
  have HK2 : Hid (Keep n w w2) := hK2
  have HV : Hid (w2.heap[w.heap.size]? = some (.cells #[.int .u64 num, .int .i64 0, .int .i64 snd, .int .u64 sent] 84)) := hv
  clear hR2 hK2 hx hg2 hb2 hv
  go_wp2_with fail
  refine (begin_any H2.out).mono ?_
  rintro e w3 ⟨C, c, rfl, hR3, hg3, hC3, hK3⟩
  have hv3 : w3.cell? ⟨w.heap.size, 1, none⟩ = some (.int .i64 0) := by
    rw [World.cell?_of_block (a := ⟨w.heap.size, 1, none⟩) (hK3.block w.heap.size (by omega) (Or.inr hsz))]; exact hv1
  have H3 : Hid (Road w3 n (siteA n (.slice none 0 0) (.slice (some ⟨w2.heap.size, 0, none⟩) 3 c) unr ring made) (procsA n cost settled) links srch walk waitedAt floor) := hR3
  have HG3 : Hid (w3.heap[w2.heap.size]? = some (.cells C 3)) := hg3
  have HC3 : Hid (C[0]? = some (.int .i64 0)) := hC3
  have HK3 : Hid (Keep n w2 w3) := hK3
  have hs3 := hK3.size
  clear hR3 hg3 hC3 hK3 hv1
  go_wp2_with fail
  refine (step_any w2.heap.size c C H3.out HG3.out (by omega) HC3.out).mono ?_
  rintro e w4 ⟨pg, pc, rfl, hR4, hp4, hpg, hg4, hs4, ho4, ht4, hu4, hf4⟩
  have hK4 : Keep n w w4 := ⟨ho4.trans (HK3.out.os.trans HK2.out.os), ht4.trans (HK3.out.tape.trans HK2.out.tape), hu4.trans (HK3.out.output.trans HK2.out.output), by omega, fun k hk hk2 => by
    rw [hf4 k (by omega) hk2 (by omega), HK3.out.block k (by omega) hk2, HK2.out.block k hk hk2]⟩
  have hv4 : w4.cell? ⟨w.heap.size, 0, none⟩ = some (.int .u64 num) := by
    rw [World.cell?_of_block (a := ⟨w.heap.size, 0, none⟩) (hf4 w.heap.size (by omega) (Or.inr hsz) (by omega)), World.cell?_of_block (a := ⟨w.heap.size, 0, none⟩) (HK3.out.block w.heap.size (by omega) (Or.inr hsz)), cell_in HV.out 0]; rfl
  have H4 : Hid (Road w4 n (siteA n (.slice (some ⟨pg, 0, none⟩) 1 pc) (.slice (some ⟨w2.heap.size, 0, none⟩) 3 c) unr ring made) (procsA n cost settled) links srch walk waitedAt floor) := hR4
  have HK4 : Hid (Keep n w w4) := hK4
  have c2 := cell_in hR4.site 2
  have c11 := cell_in hR4.site 11
  have f11 := free_in hR4.site 11
  have p3 := cell_in hR4.procs 3
  simp [siteA, procsA] at c2 c11 p3
  have l5 := lt_in hR4.site
  have HG4 : Hid (w4.cell? ⟨w2.heap.size, 0, none⟩ = some (.int .i64 (-1))) := hg4
  clear hR4 hf4 ho4 ht4 hu4 hK4 hg4 hv3
  have hpn : ¬ (pg = n + 5) := by omega
  have hpn' : ¬ (n + 5 = pg) := by omega
  go_wp2_with fail
  refine wp_loop_rounds 1 ?_
  rw [rounds_succ]
  go_wp2
  go_region
  all_goals go_wp2
  all_goals go_region
  all_goals go_wp2
  go_ret
  refine ⟨pg, pc, w2.heap.size, c, rfl, ?_, by omega, ?_, ?_⟩
  · exact (H4.out.s11 _).drew.drew
  · have hne : (⟨w2.heap.size, 0, none⟩ : Addr).block ≠ n + 5 := by show w2.heap.size ≠ n + 5; omega
    rw [cell_drew, cell_drew, World.cell?_of_block (a := ⟨w2.heap.size, 0, none⟩) (Below.heap_setCell _ _ _ _ hne)]
    exact HG4.out
  · exact ((HK4.out.site 11 _).drew).drew
end
end Go.Proofs.Ybulkbviq
