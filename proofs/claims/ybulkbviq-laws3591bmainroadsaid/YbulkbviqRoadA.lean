/-
  The main road, the small callees: the binary search over one walk, waitsBefore, slices.Contains.
-/
import Derived.Test.YbulkbviqRoad
import Derived.WalkKit
import Derived.WalkSpells
import Derived.Handy
namespace Go.Proofs.Ybulkbviq
open Go.RowKit Go.ChangeMaps

theorem lt_in {w : World} {b : Nat} {o : Obj} (h : w.heap[b]? = some o) : b < w.heap.size := (Array.getElem?_eq_some_iff.1 h).1

set_option maxRecDepth 100000 in
theorem cmp_any (x y fr snd sent : Int) (w : World) :
    Calls Yba.prog 12 #[.agg #[.int .u64 x, .int .i64 fr, .int .i64 snd, .int .u64 sent], .int .u64 y] w fun e w' => e = .returned (.int .i64 (if x < y then -1 else if y < x then 1 else 0)) ∧ w' = w.alloc (.cells #[.int .u64 x, .int .i64 fr, .int .i64 snd, .int .u64 sent] 84) := by
  by_cases h1 : x < y
  · rw [if_pos h1]
    go_enter Yba.func12, Yba.ntmps12
    go_wp2
    go_ret
    exact ⟨rfl, rfl⟩
  · by_cases h2 : y < x
    · rw [if_neg h1, if_pos h2]
      go_enter Yba.func12, Yba.ntmps12
      go_wp2
      go_ret
      exact ⟨rfl, rfl⟩
    · rw [if_neg h1, if_neg h2]
      go_enter Yba.func12, Yba.ntmps12
      go_wp2
      go_ret
      exact ⟨rfl, rfl⟩

/-- The one walk bears the number that is looked for. -/
theorem cmp_eq (x fr snd sent : Int) (w : World) :
    Calls Yba.prog 12 #[.agg #[.int .u64 x, .int .i64 fr, .int .i64 snd, .int .u64 sent], .int .u64 x] w fun e w' => e = .returned (.int .i64 0) ∧ w' = w.alloc (.cells #[.int .u64 x, .int .i64 fr, .int .i64 snd, .int .u64 sent] 84) := by
  have := cmp_any x x fr snd sent w
  rwa [if_neg (by omega), if_neg (by omega)] at this
theorem cmp_lt {x y : Int} (h : x < y) (fr snd sent : Int) (w : World) :
    Calls Yba.prog 12 #[.agg #[.int .u64 x, .int .i64 fr, .int .i64 snd, .int .u64 sent], .int .u64 y] w fun e w' => e = .returned (.int .i64 (-1)) ∧ w' = w.alloc (.cells #[.int .u64 x, .int .i64 fr, .int .i64 snd, .int .u64 sent] 84) := by
  have := cmp_any x y fr snd sent w
  rwa [if_pos h] at this
theorem cmp_gt {x y : Int} (h : y < x) (fr snd sent : Int) (w : World) :
    Calls Yba.prog 12 #[.agg #[.int .u64 x, .int .i64 fr, .int .i64 snd, .int .u64 sent], .int .u64 y] w fun e w' => e = .returned (.int .i64 1) ∧ w' = w.alloc (.cells #[.int .u64 x, .int .i64 fr, .int .i64 snd, .int .u64 sent] 84) := by
  have := cmp_any x y fr snd sent w
  rwa [if_neg (by omega), if_pos h] at this

set_option maxRecDepth 100000 in
set_option maxHeartbeats 1600000 in
theorem bsearch_eq (b : Nat) (num snd sent : Int) (w : World) (hb : w.heap[b]? = some (.cells (walkA num snd sent) 84)) :
    Calls Yba.prog 11 #[.slice (some ⟨b, 0, none⟩) 1 1, .int .u64 num, .func (Fn.func 12) #[] #[]] w fun e w' => e = .returned (.tuple #[.int .i64 0, .bool true]) ∧ Below w.heap.size w w' := by
  have c0 := cell_in hb 0
  have c1 := cell_in hb 1
  have c2 := cell_in hb 2
  have c3 := cell_in hb 3
  have hlt := lt_in hb
  simp [walkA] at c0 c1 c2 c3
  clear hb
  go_enter Yba.func11, Yba.ntmps11
  go_wp2
  refine wp_loop_rounds 2 ?_
  rw [rounds_succ]
  go_wp2_with (go_at_call 12; refine (cmp_eq _ _ _ _ _).mono ?_; rintro e w' ⟨rfl, rfl⟩)
  rw [rounds_succ]
  go_wp2_with (go_at_call 12; refine (cmp_eq _ _ _ _ _).mono ?_; rintro e w' ⟨rfl, rfl⟩)
  go_ret2
  exact ⟨rfl, ((Below.refl _ _).alloc (Nat.le_refl _) _).alloc (by simp) _⟩

set_option maxRecDepth 100000 in
set_option maxHeartbeats 1600000 in
theorem bsearch_ne (b : Nat) (num x snd sent : Int) (w : World) (hb : w.heap[b]? = some (.cells (walkA num snd sent) 84)) (hne : num ≠ x) :
    Calls Yba.prog 11 #[.slice (some ⟨b, 0, none⟩) 1 1, .int .u64 x, .func (Fn.func 12) #[] #[]] w fun e w' => ∃ i, e = .returned (.tuple #[.int .i64 i, .bool false]) ∧ Below w.heap.size w w' := by
  have c0 := cell_in hb 0
  have c1 := cell_in hb 1
  have c2 := cell_in hb 2
  have c3 := cell_in hb 3
  have hlt := lt_in hb
  simp [walkA] at c0 c1 c2 c3
  clear hb
  rcases (show num < x ∨ x < num from by omega) with h | h
  · clear hne
    go_enter Yba.func11, Yba.ntmps11
    go_wp2
    refine wp_loop_rounds 2 ?_
    rw [rounds_succ]
    go_wp2_with (go_at_call 12; refine (cmp_lt h _ _ _ _).mono ?_; rintro e w' ⟨rfl, rfl⟩)
    rw [rounds_succ]
    go_wp2_with (go_at_call 12; refine (cmp_lt h _ _ _ _).mono ?_; rintro e w' ⟨rfl, rfl⟩)
    go_ret2
    exact ⟨_, rfl, (Below.refl _ _).alloc (Nat.le_refl _) _⟩
  · clear hne
    go_enter Yba.func11, Yba.ntmps11
    go_wp2
    refine wp_loop_rounds 2 ?_
    rw [rounds_succ]
    go_wp2_with (go_at_call 12; refine (cmp_gt h _ _ _ _).mono ?_; rintro e w' ⟨rfl, rfl⟩)
    rw [rounds_succ]
    go_wp2_with (go_at_call 12; refine (cmp_gt h _ _ _ _).mono ?_; rintro e w' ⟨rfl, rfl⟩)
    go_ret2
    exact ⟨_, rfl, ((Below.refl _ _).alloc (Nat.le_refl _) _).alloc (by simp) _⟩

section
variable {w : World} {n : Nat} {pend prev ring settled : Value} {unr made cost : Int} {links srch walk : Array Value} {waitedAt floor : Int}

set_option maxRecDepth 100000 in
set_option maxHeartbeats 1600000 in
/-- The one wait was recorded ahead of the walk. -/
theorem waitsBefore_yes (h : Road w n (siteA n pend prev unr ring made) (procsA n cost settled) links srch walk waitedAt floor) (num : Int) (hlt : waitedAt < num) :
    Calls Yba.prog 22 #[.pointer (some ⟨n + 5, 0, none⟩), .int .i64 0, .int .u64 num] w fun e w' => e = .returned (.slice (some ⟨n + 6, 0, none⟩) 1 1) ∧ w' = w := by
  have c0 := cell_in h.site 2
  have c1 := cell_in h.procs 3
  have c2 := cell_in h.procs 4
  have c3 := cell_in h.waited 0
  simp [siteA, procsA] at c0 c1 c2 c3
  clear h
  go_enter Yba.func22, Yba.ntmps22
  go_wp2
  go_rounds 2
  go_ret
  exact ⟨rfl, rfl⟩

set_option maxRecDepth 100000 in
set_option maxHeartbeats 1600000 in
theorem waitsBefore_no (h : Road w n (siteA n pend prev unr ring made) (procsA n cost settled) links srch walk waitedAt floor) (num : Int) (hlt : ¬ waitedAt < num) :
    Calls Yba.prog 22 #[.pointer (some ⟨n + 5, 0, none⟩), .int .i64 0, .int .u64 num] w fun e w' => e = .returned (.slice (some ⟨n + 6, 0, none⟩) 0 1) ∧ w' = w := by
  have c0 := cell_in h.site 2
  have c1 := cell_in h.procs 3
  have c2 := cell_in h.procs 4
  have c3 := cell_in h.waited 0
  simp [siteA, procsA] at c0 c1 c2 c3
  clear h
  go_enter Yba.func22, Yba.ntmps22
  go_wp2
  go_rounds 1
  go_ret
  exact ⟨rfl, rfl⟩

set_option maxRecDepth 100000 in
set_option maxHeartbeats 1600000 in
theorem contains_yes (b : Nat) (hb : w.cell? ⟨b, 0, none⟩ = some (.int .i64 1)) :
    Calls Yba.prog 21 #[.slice (some ⟨b, 0, none⟩) 1 1, .int .i64 1] w fun e w' => e = .returned (.bool true) ∧ w' = w := by
  go_enter Yba.func21, Yba.ntmps21
  go_wp2
  go_rounds 1
  go_ret
  exact ⟨rfl, rfl⟩

set_option maxRecDepth 100000 in
set_option maxHeartbeats 1600000 in
theorem contains_no (b : Nat) (a : Option Addr) :
    Calls Yba.prog 21 #[.slice a 0 b, .int .i64 1] w fun e w' => e = .returned (.bool false) ∧ w' = w := by
  go_enter Yba.func21, Yba.ntmps21
  go_wp2
  go_rounds 1
  go_ret
  exact ⟨rfl, rfl⟩
end
end Go.Proofs.Ybulkbviq
