/-
  The main road: marks.add, begin, step, held.
-/
import Derived.Test.YbulkbviqRoadA
import Derived.WalkKit
import Derived.WalkSpells
import Derived.Handy
import Derived.Lib.AppendZeros
import Derived.Lib.AppendZerosOnto
import Derived.Deep.RegionHeld3
import Derived.Deep.RegionLaw
import Derived.Deep.AppendLies
import Derived.Deep.DrawnRows
import Derived.BigRegion
namespace Go.Proofs.Ybulkbviq
open Go.RowKit Go.ChangeMaps
attribute [local go_sem ↓] Go.wp_at_zero Go.wp_at_succ

theorem zeroCells_at (z : Value) (hz : z.cells = #[z]) (m j : Nat) (h : j < m) : (Builtin.zeroCells z.cells m)[j]? = some z := by
  rw [hz]
  simp [Builtin.zeroCells, h, Nat.mod_one]

/-- 'append(xs, make([]T, m)...)' onto a slice that has no cell: a new row, its first m cells the zero value. -/
theorem run_zeros {P : Program} (w : World) (t tn ty e : TypeId) (i : TypeInfo) (z : Value) (kn : IntKind) (ht : P.underlying t = some (.slice e)) (htn : P.underlying tn = some (.int kn)) (hi : P.info? e = some i) (hz : i.zero = some z) (hz1 : z.cells = #[z])
    (hs : i.size = 1) (hby : i.bytes = 8) (base : Option Addr) (m : Nat) (h0 : 0 < m) (hm : m ≤ 1000) :
    ∃ C c, (Builtin.append_ #[t, tn] ty #[.slice base 0 0, .int .i64 m]).run P w = .ok (.slice (some ⟨w.heap.size, 0, none⟩) m c) ((w.alloc (.cells C e)).drew) ∧ ∀ j, j < m → C[j]? = some z := by
  have hold : (Builtin.firstCells i.size 0 (.slice base 0 0)).run P w.drew = .ok ([] : List Value).toArray w.drew := by
    cases base <;> simp [Builtin.firstCells, loadCells, loadCellsFrom]
  have := Lib.run_append_grow_zeros (P := P) w t tn ty e i z .i64 kn ht htn hi hz base 0 0 [] hold m h0 (by omega) (by omega) (by omega) (by rw [hby]; omega) (by rw [Nat.zero_add, nextslicecap_zero h0, hby]; omega)
  simp only [Nat.zero_add] at this
  refine ⟨_, _, this, fun j hj => ?_⟩
  have e1 : j < (Builtin.zeroCells z.cells m).size := by rw [hz1]; simp [Builtin.zeroCells, hj]
  have e2 : (([] : List Value).toArray ++ Builtin.zeroCells z.cells m) = Builtin.zeroCells z.cells m := by simp
  rw [e2, Array.getElem?_append_left e1]
  exact zeroCells_at z hz1 m j hj

/-- .. as one step of a region that draws. -/
theorem step_zeros {P : Program} {ops : Array Oper} {o : Oper} {a : Act} {w : World} {K : Act → World → Prop} {Q : Exit → Act → World → Prop} {E : Prop} (hgd : o.guard = none) (s x : Operand) (t tn : TypeId)
    (ho : o.op = .call { callee := .builtin .append, args := #[s, x], argTypes := #[t, tn] }) (e : TypeId) (i : TypeInfo) (z : Value) (kn : IntKind) (ht : P.underlying t = some (.slice e)) (htn : P.underlying tn = some (.int kn)) (hi : P.info? e = some i) (hz : i.zero = some z) (hz1 : z.cells = #[z])
    (hs : i.size = 1) (hby : i.bytes = 8) (base : Option Addr) (m : Nat) (h0 : 0 < m) (hm : m ≤ 1000) (hvs : a.eval s = .slice base 0 0) (hvx : a.eval x = .int .i64 m)
    (h : ∀ C c, (∀ j, j < m → C[j]? = some z) → K (a.put o.dst (.slice (some ⟨w.heap.size, 0, none⟩) m c)) ((w.alloc (.cells C e)).drew)) :
    if Region.wanted o (yielded ops a.tmps) = true then Oper.wp P o a w K Q else E := by
  have hw : Region.wanted o (yielded ops a.tmps) = true := by simp [Region.wanted, hgd]
  rw [if_pos hw]
  obtain ⟨C, c, hr, hC⟩ := run_zeros (P := P) w t tn o.type e i z kn ht htn hi hz hz1 hs hby base m h0 hm
  exact Lib.wp_append_run w s x t tn ho _ _ hvs hvx _ _ hr (h C c hC)

theorem info22 : (Yba.prog.info? 22).map (fun i => (i.zero, i.size, i.bytes)) = some (some (.int .u64 0), 1, 8) := by kernel_rfl
theorem info3 : (Yba.prog.info? 3).map (fun i => (i.zero, i.size, i.bytes)) = some (some (.int .i64 0), 1, 8) := by kernel_rfl

set_option maxRecDepth 100000 in
set_option maxHeartbeats 1600000 in
/-- The first mark, at place 0, into a set that is empty and not nil. -/
theorem add_any (q e : Nat) (w : World) (hq : w.heap[q]? = some (.cells #[.slice (some ⟨e, 0, none⟩) 0 0] 37)) :
    Calls Yba.prog 23 #[.pointer (some ⟨q, 0, none⟩), .int .i64 0] w fun e w' => e = .returned (.bool true) ∧ w.grownBy w' (some q) := by
  obtain ⟨i0, hi0, hz0, hz1, hz2⟩ := info_parts info22
  have c0 := cell_in hq 0
  have f0 := free_in hq 0
  have hlt := lt_in hq
  simp at c0
  go_enter Yba.func23, Yba.ntmps23
  go_wp2
  go_region
  go_wp2
  go_region_law (refine step_zeros rfl (.tmp 22) (.tmp 29) 37 3 rfl 22 i0 _ .i64 Yba.underlying37 Yba.underlying3 hi0 hz0 rfl hz1 hz2 (some ⟨e, 0, none⟩) 1 (by omega) (by omega) rfl rfl ?_; intro C c hC; have hC0 := hC 0 (by omega); clear hC)
  all_goals go_wp2
  all_goals
    go_ret
    refine ⟨by kernel_rfl, ?_⟩
    exact ⟨rfl, rfl, rfl, by simp, fun k hk hne => by
      show ((w.setCell _ _).alloc _).heap[k]? = _
      rw [heap_alloc_past _ _ (by simpa using hk), Below.heap_setCell _ _ _ _ (by simpa using hne)]⟩

theorem heap_drew (w : World) (k : Nat) : w.drew.heap[k]? = w.heap[k]? := rfl
theorem cell_drew (w : World) (a : Addr) : w.drew.cell? a = w.cell? a := rfl

section
variable {w : World} {n : Nat} {ring settled : Value} {unr made cost : Int} {procs links srch walk : Array Value} {waitedAt floor : Int}

set_option maxRecDepth 100000 in
set_option maxHeartbeats 1600000 in
theorem begin_any (h : Road w n (siteA n (.slice none 0 0) (.slice none 0 0) unr ring made) procs links srch walk waitedAt floor) :
    Calls Yba.prog 24 #[.pointer (some ⟨n + 5, 0, none⟩)] w fun e w' => ∃ C c, e = .returned (.tuple #[]) ∧ Road w' n (siteA n (.slice none 0 0) (.slice (some ⟨w.heap.size, 0, none⟩) 3 c) unr ring made) procs links srch walk waitedAt floor ∧
      w'.heap[w.heap.size]? = some (.cells C 3) ∧ C[0]? = some (.int .i64 0) ∧ Keep n w w' := by
  obtain ⟨i0, hi0, hz0, hz1, hz2⟩ := info_parts info3
  have c0 := cell_in h.site
  have f0 := free_in h.site
  have hlt := lt_in h.site
  have c2 := c0 2
  have c11 := c0 11
  have c13 := c0 13
  have c14 := c0 14
  have c15 := c0 15
  have c16 := c0 16
  have c17 := c0 17
  have c18 := c0 18
  clear c0
  simp [siteA] at c2 c11 c13 c14 c15 c16 c17 c18
  have HH : Hid (Road w n (siteA n (.slice none 0 0) (.slice none 0 0) unr ring made) procs links srch walk waitedAt floor) := h
  clear h
  go_enter Yba.func24, Yba.ntmps24
  go_wp2
  go_region_law (refine step_zeros rfl (.tmp 23) (.tmp 30) 43 3 rfl 3 i0 _ .i64 Yba.underlying43 Yba.underlying3 hi0 hz0 rfl hz1 hz2 none 3 (by omega) (by omega) rfl rfl ?_; intro C c hC; have hC0 := hC 0 (by omega); clear hC)
  all_goals go_wp2
  all_goals go_end0
  all_goals
    refine ⟨C, c, rfl, ?_, ?_, hC0, ?_⟩
    · exact (((HH.out.s14.s15.s16.s17.s18.s13 _).s11 _).alloc _).drew.drew
    · rw [heap_drew, heap_drew, heap_alloc_at _ _ (by simp)]
    · exact ((((((((((Keep.refl n w).site 14 _).site 15 _).site 16 _).site 17 _).site 18 _).site 13 _).site 11 _).alloc _).drew).drew

set_option maxRecDepth 100000 in
set_option maxHeartbeats 1600000 in
theorem step_any (g c : Nat) (C : Array Value) (h : Road w n (siteA n (.slice none 0 0) (.slice (some ⟨g, 0, none⟩) 3 c) unr ring made) procs links srch walk waitedAt floor) (hg : w.heap[g]? = some (.cells C 3)) (hn : n + 15 ≤ g) (hC : C[0]? = some (.int .i64 0)) :
    Calls Yba.prog 25 #[.pointer (some ⟨n + 5, 0, none⟩), .int .i64 (-1), .int .i64 0] w fun e w' => ∃ pg pc, e = .returned (.tuple #[]) ∧ Road w' n (siteA n (.slice (some ⟨pg, 0, none⟩) 1 pc) (.slice (some ⟨g, 0, none⟩) 3 c) unr ring made) procs links srch walk waitedAt floor ∧
      w'.cell? ⟨pg, 0, none⟩ = some (.int .i64 0) ∧ w.heap.size ≤ pg ∧ w'.cell? ⟨g, 0, none⟩ = some (.int .i64 (-1)) ∧ w.heap.size ≤ w'.heap.size ∧ w'.os = w.os ∧ w'.tape = w.tape ∧ w'.output = w.output ∧ (∀ k, k < w.heap.size → (k ≤ n ∨ n + 15 ≤ k) → k ≠ g → w'.heap[k]? = w.heap[k]?) := by
  obtain ⟨i0, hi0, hz0, hz1, hz2⟩ := info_parts info3
  have c0 := cell_in h.site
  have f0 := free_in h.site
  have hlt := lt_in h.site
  have c11 := c0 11
  have c13 := c0 13
  have g0 := cell_in hg 0
  rw [hC] at g0
  have gf := free_in hg 0
  have hglt := lt_in hg
  clear c0
  simp [siteA] at c11 c13
  have HH : Hid (Road w n (siteA n (.slice none 0 0) (.slice (some ⟨g, 0, none⟩) 3 c) unr ring made) procs links srch walk waitedAt floor) := h
  have hne : ¬ (g = n + 5) := by omega
  have hne' : ¬ (n + 5 = g) := by omega
  clear h
  go_enter Yba.func25, Yba.ntmps25
  go_wp2
  go_end0
  refine ⟨w.heap.size + 1, (Question.appendCap 1 0 3).cut (w.tape w.drawn (Question.appendCap 1 0 3)), rfl, ?_, ?_, by omega, ?_, ?_, rfl, rfl, rfl, ?_⟩
  · exact ((((HH.out.far (p := ⟨g, 0, none⟩) hn _).s11 _).alloc _).alloc _).drew
  · rw [cell_drew, World.cell?_alloc_at _ _ _ _ (by simp), Array.getElem?_append_left (by simp)]
    rfl
  · rw [cell_drew, World.cell?_alloc_past _ _ _ (by simp; omega), World.cell?_alloc_past _ _ _ (by simp; omega)]
    simp [go_sem, g0]
  · simp [World.setCell]; omega
  · intro k hk hk2 hkg
    rw [heap_drew, heap_alloc_past _ _ (by simp [World.setCell]; omega), heap_alloc_past _ _ (by simp [World.setCell]; omega), Below.heap_setCell _ _ _ _ (by show k ≠ n + 5; omega), Below.heap_setCell _ _ _ _ hkg]
end
end Go.Proofs.Ybulkbviq
