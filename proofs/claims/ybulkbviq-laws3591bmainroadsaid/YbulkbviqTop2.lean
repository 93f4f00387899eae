/-
  LawS3591BMainRoad: the walk of the law itself, the refusals, the others.
-/
import Derived.Test.YbulkbviqSetup
import Derived.Test.YbulkbviqRoadM
import Derived.WalkKit
import Derived.WalkSpells
import Derived.WalkLawsBesides
import Derived.Handy
import Derived.Lib.SliceRun
import Derived.BigRegion
import Derived.BigQuiet
import Derived.Deep.QuietTactic
namespace Go.Proofs.Ybulkbviq
open Go.RowKit Go.ChangeMaps

set_option maxRecDepth 100000 in
set_option maxHeartbeats 3200000 in
theorem law_noSender_f (costA maxCost waitedAt walkNum sent number floor : Int) (maxName maxSite : ByteArray) (back : Int) (w : World)  :
    Calls Yba.prog 3 #[.agg (inV costA maxCost waitedAt walkNum walkNum sent number floor maxName maxSite false true back)] w fun e w' => e = .returned (.bool true) ∧ Below w.heap.size w w' := by
  have hnl : w.heap.size < (w.alloc (.cells (inV costA maxCost waitedAt walkNum walkNum sent number floor maxName maxSite false true back) 24)).heap.size := by simp
  have key := hide (setup_no costA maxCost waitedAt walkNum walkNum sent number floor maxName maxSite true back (w.alloc (.cells (inV costA maxCost waitedAt walkNum walkNum sent number floor maxName maxSite false true back) 24)))
  have HI : Hid ((w.alloc (.cells (inV costA maxCost waitedAt walkNum walkNum sent number floor maxName maxSite false true back) 24)).heap[w.heap.size]? = some (.cells (inV costA maxCost waitedAt walkNum walkNum sent number floor maxName maxSite false true back) 24)) := heap_alloc_at _ _ rfl
  have HB0 : Hid (Below w.heap.size w (w.alloc (.cells (inV costA maxCost waitedAt walkNum walkNum sent number floor maxName maxSite false true back) 24))) := (Below.refl _ _).alloc (Nat.le_refl _) _
  unfold inV
  go_enter Yba.func3, Yba.ntmps3
  go_wp2_with fail
  refine key.out.mono ?_
  rintro e w1 ⟨rfl, hR1, hB1⟩
  have hI1 := (hB1.block w.heap.size hnl).trans HI.out
  have HBn : Hid (Below w.heap.size w w1) := HB0.out.trans (hB1.mono (Nat.le_of_lt hnl))
  clear key HI HB0 hB1
  revert hR1 hnl
  generalize (w.alloc (.cells (inV costA maxCost waitedAt walkNum walkNum sent number floor maxName maxSite false true back) 24)).heap.size = n
  intro hnl hR1
  have hIc := cell_in hI1
  have j0 := hIc 0
  have j1 := hIc 1
  have j2 := hIc 2
  have j3 := hIc 3
  have j4 := hIc 4
  have j5 := hIc 5
  have j6 := hIc 6
  have j7 := hIc 7
  have j8 := hIc 8
  have j9 := hIc 9
  have j10 := hIc 10
  have j11 := hIc 11
  have j12 := hIc 12
  simp [inV] at j0 j1 j2 j3 j4 j5 j6 j7 j8 j9 j10 j11 j12
  have lI := lt_in hI1
  have HR1 := hide hR1
  have HI1 := hide hI1
  clear hR1 hI1 hIc
  go_wp2_with fail
  refine (receive_noSender (HR1.out.alloc _)).mono ?_
  rintro e w2 ⟨rfl, hR2, hK2⟩
  have hI2 := (hK2.block w.heap.size (by simp; omega) (Or.inl (Nat.le_of_lt hnl))).trans ((heap_alloc_past _ _ lI).trans HI1.out)
  have HBw : Hid (Below w.heap.size w w2) := (HBn.out.trans (((Below.refl w1.heap.size w1).alloc (Nat.le_refl _) _).mono HBn.out.size)).trans ((hK2.toBelow (by have := HR1.out.size; simp; omega)).mono (by omega))
  have hIc := cell_in hI2
  have j0 := hIc 0
  have j1 := hIc 1
  have j2 := hIc 2
  have j3 := hIc 3
  have j4 := hIc 4
  have j5 := hIc 5
  have j6 := hIc 6
  have j7 := hIc 7
  have j8 := hIc 8
  have j9 := hIc 9
  have j10 := hIc 10
  have j11 := hIc 11
  have j12 := hIc 12
  simp [inV] at j0 j1 j2 j3 j4 j5 j6 j7 j8 j9 j10 j11 j12
  have lI2 := lt_in hI2
  clear hIc hI2
  have s2 := cell_in hR2.site 2
  have s23 := cell_in hR2.site 23
  have p6 := cell_in hR2.procs 6
  have q11 := cell_in hR2.srch 11
  have q13 := cell_in hR2.srch 13
  simp [siteA, procsA, srchA] at s2 s23 p6 q11 q13
  have e32 := fun (W : World) (a : Option Addr) (n c : Nat) => Lib.run_eql_slice_nil (P := Yba.prog) W 32 31 a n c 0 0 Yba.underlying32
  have e39 := fun (W : World) (a : Option Addr) (n c : Nat) => Lib.run_eql_slice_nil (P := Yba.prog) W 39 67 a n c 0 0 Yba.underlying39
  clear hR2 hK2
  go_wp2
  go_ret
  exact ⟨rfl, HBw.out⟩

set_option maxRecDepth 100000 in
set_option maxHeartbeats 3200000 in
theorem law_noSender_t (costA maxCost waitedAt walkNum sent number floor : Int) (maxName maxSite : ByteArray) (back : Int) (w : World)  :
    Calls Yba.prog 3 #[.agg (inV costA maxCost waitedAt walkNum walkNum sent number floor maxName maxSite true true back)] w fun e w' => e = .returned (.bool true) ∧ Below w.heap.size w w' := by
  have hnl : w.heap.size < (w.alloc (.cells (inV costA maxCost waitedAt walkNum walkNum sent number floor maxName maxSite true true back) 24)).heap.size := by simp
  have key := hide (setup_yes costA maxCost waitedAt walkNum walkNum sent number floor maxName maxSite true back (w.alloc (.cells (inV costA maxCost waitedAt walkNum walkNum sent number floor maxName maxSite true true back) 24)))
  have HI : Hid ((w.alloc (.cells (inV costA maxCost waitedAt walkNum walkNum sent number floor maxName maxSite true true back) 24)).heap[w.heap.size]? = some (.cells (inV costA maxCost waitedAt walkNum walkNum sent number floor maxName maxSite true true back) 24)) := heap_alloc_at _ _ rfl
  have HB0 : Hid (Below w.heap.size w (w.alloc (.cells (inV costA maxCost waitedAt walkNum walkNum sent number floor maxName maxSite true true back) 24))) := (Below.refl _ _).alloc (Nat.le_refl _) _
  unfold inV
  go_enter Yba.func3, Yba.ntmps3
  go_wp2_with fail
  refine key.out.mono ?_
  rintro e w1 ⟨rfl, hR1, hB1⟩
  have hI1 := (hB1.block w.heap.size hnl).trans HI.out
  have HBn : Hid (Below w.heap.size w w1) := HB0.out.trans (hB1.mono (Nat.le_of_lt hnl))
  clear key HI HB0 hB1
  revert hR1 hnl
  generalize (w.alloc (.cells (inV costA maxCost waitedAt walkNum walkNum sent number floor maxName maxSite true true back) 24)).heap.size = n
  intro hnl hR1
  have hIc := cell_in hI1
  have j0 := hIc 0
  have j1 := hIc 1
  have j2 := hIc 2
  have j3 := hIc 3
  have j4 := hIc 4
  have j5 := hIc 5
  have j6 := hIc 6
  have j7 := hIc 7
  have j8 := hIc 8
  have j9 := hIc 9
  have j10 := hIc 10
  have j11 := hIc 11
  have j12 := hIc 12
  simp [inV] at j0 j1 j2 j3 j4 j5 j6 j7 j8 j9 j10 j11 j12
  have lI := lt_in hI1
  have HR1 := hide hR1
  have HI1 := hide hI1
  clear hR1 hI1 hIc
  go_wp2_with fail
  refine (receive_noSender (HR1.out.alloc _)).mono ?_
  rintro e w2 ⟨rfl, hR2, hK2⟩
  have hI2 := (hK2.block w.heap.size (by simp; omega) (Or.inl (Nat.le_of_lt hnl))).trans ((heap_alloc_past _ _ lI).trans HI1.out)
  have HBw : Hid (Below w.heap.size w w2) := (HBn.out.trans (((Below.refl w1.heap.size w1).alloc (Nat.le_refl _) _).mono HBn.out.size)).trans ((hK2.toBelow (by have := HR1.out.size; simp; omega)).mono (by omega))
  have hIc := cell_in hI2
  have j0 := hIc 0
  have j1 := hIc 1
  have j2 := hIc 2
  have j3 := hIc 3
  have j4 := hIc 4
  have j5 := hIc 5
  have j6 := hIc 6
  have j7 := hIc 7
  have j8 := hIc 8
  have j9 := hIc 9
  have j10 := hIc 10
  have j11 := hIc 11
  have j12 := hIc 12
  simp [inV] at j0 j1 j2 j3 j4 j5 j6 j7 j8 j9 j10 j11 j12
  have lI2 := lt_in hI2
  clear hIc hI2
  have s2 := cell_in hR2.site 2
  have s23 := cell_in hR2.site 23
  have p6 := cell_in hR2.procs 6
  have q11 := cell_in hR2.srch 11
  have q13 := cell_in hR2.srch 13
  simp [siteA, procsA, srchA] at s2 s23 p6 q11 q13
  have e32 := fun (W : World) (a : Option Addr) (n c : Nat) => Lib.run_eql_slice_nil (P := Yba.prog) W 32 31 a n c 0 0 Yba.underlying32
  have e39 := fun (W : World) (a : Option Addr) (n c : Nat) => Lib.run_eql_slice_nil (P := Yba.prog) W 39 67 a n c 0 0 Yba.underlying39
  clear hR2 hK2
  go_wp2
  go_ret
  exact ⟨rfl, HBw.out⟩

set_option maxRecDepth 100000 in
set_option maxHeartbeats 3200000 in
theorem law_young_f (costA maxCost waitedAt walkNum sent number floor : Int) (maxName maxSite : ByteArray) (back : Int) (w : World) (hy : walkNum ≤ waitedAt) :
    Calls Yba.prog 3 #[.agg (inV costA maxCost waitedAt walkNum walkNum sent number floor maxName maxSite false false back)] w fun e w' => e = .returned (.bool true) ∧ Below w.heap.size w w' := by
  have HY := hide hy
  have hnl : w.heap.size < (w.alloc (.cells (inV costA maxCost waitedAt walkNum walkNum sent number floor maxName maxSite false false back) 24)).heap.size := by simp
  have key := hide (setup_no costA maxCost waitedAt walkNum walkNum sent number floor maxName maxSite false back (w.alloc (.cells (inV costA maxCost waitedAt walkNum walkNum sent number floor maxName maxSite false false back) 24)))
  have HI : Hid ((w.alloc (.cells (inV costA maxCost waitedAt walkNum walkNum sent number floor maxName maxSite false false back) 24)).heap[w.heap.size]? = some (.cells (inV costA maxCost waitedAt walkNum walkNum sent number floor maxName maxSite false false back) 24)) := heap_alloc_at _ _ rfl
  have HB0 : Hid (Below w.heap.size w (w.alloc (.cells (inV costA maxCost waitedAt walkNum walkNum sent number floor maxName maxSite false false back) 24))) := (Below.refl _ _).alloc (Nat.le_refl _) _
  unfold inV
  go_enter Yba.func3, Yba.ntmps3
  go_wp2_with fail
  refine key.out.mono ?_
  rintro e w1 ⟨rfl, hR1, hB1⟩
  have hI1 := (hB1.block w.heap.size hnl).trans HI.out
  have HBn : Hid (Below w.heap.size w w1) := HB0.out.trans (hB1.mono (Nat.le_of_lt hnl))
  clear key HI HB0 hB1
  revert hR1 hnl
  generalize (w.alloc (.cells (inV costA maxCost waitedAt walkNum walkNum sent number floor maxName maxSite false false back) 24)).heap.size = n
  intro hnl hR1
  have hIc := cell_in hI1
  have j0 := hIc 0
  have j1 := hIc 1
  have j2 := hIc 2
  have j3 := hIc 3
  have j4 := hIc 4
  have j5 := hIc 5
  have j6 := hIc 6
  have j7 := hIc 7
  have j8 := hIc 8
  have j9 := hIc 9
  have j10 := hIc 10
  have j11 := hIc 11
  have j12 := hIc 12
  simp [inV] at j0 j1 j2 j3 j4 j5 j6 j7 j8 j9 j10 j11 j12
  have lI := lt_in hI1
  have HR1 := hide hR1
  have HI1 := hide hI1
  clear hR1 hI1 hIc
  go_wp2_with fail
  refine (receive_young (HR1.out.alloc _) HY.out).mono ?_
  rintro e w2 ⟨rfl, hR2, hK2⟩
  have hI2 := (hK2.block w.heap.size (by simp; omega) (Or.inl (Nat.le_of_lt hnl))).trans ((heap_alloc_past _ _ lI).trans HI1.out)
  have HBw : Hid (Below w.heap.size w w2) := (HBn.out.trans (((Below.refl w1.heap.size w1).alloc (Nat.le_refl _) _).mono HBn.out.size)).trans ((hK2.toBelow (by have := HR1.out.size; simp; omega)).mono (by omega))
  have hIc := cell_in hI2
  have j0 := hIc 0
  have j1 := hIc 1
  have j2 := hIc 2
  have j3 := hIc 3
  have j4 := hIc 4
  have j5 := hIc 5
  have j6 := hIc 6
  have j7 := hIc 7
  have j8 := hIc 8
  have j9 := hIc 9
  have j10 := hIc 10
  have j11 := hIc 11
  have j12 := hIc 12
  simp [inV] at j0 j1 j2 j3 j4 j5 j6 j7 j8 j9 j10 j11 j12
  have lI2 := lt_in hI2
  clear hIc hI2
  have s2 := cell_in hR2.site 2
  have s23 := cell_in hR2.site 23
  have p6 := cell_in hR2.procs 6
  have q11 := cell_in hR2.srch 11
  have q13 := cell_in hR2.srch 13
  simp [siteA, procsA, srchA] at s2 s23 p6 q11 q13
  have e32 := fun (W : World) (a : Option Addr) (n c : Nat) => Lib.run_eql_slice_nil (P := Yba.prog) W 32 31 a n c 0 0 Yba.underlying32
  have e39 := fun (W : World) (a : Option Addr) (n c : Nat) => Lib.run_eql_slice_nil (P := Yba.prog) W 39 67 a n c 0 0 Yba.underlying39
  clear hR2 hK2
  go_wp2
  go_ret
  exact ⟨rfl, HBw.out⟩

set_option maxRecDepth 100000 in
set_option maxHeartbeats 3200000 in
theorem law_young_t (costA maxCost waitedAt walkNum sent number floor : Int) (maxName maxSite : ByteArray) (back : Int) (w : World) (hy : walkNum ≤ waitedAt) :
    Calls Yba.prog 3 #[.agg (inV costA maxCost waitedAt walkNum walkNum sent number floor maxName maxSite true false back)] w fun e w' => e = .returned (.bool true) ∧ Below w.heap.size w w' := by
  have HY := hide hy
  have hnl : w.heap.size < (w.alloc (.cells (inV costA maxCost waitedAt walkNum walkNum sent number floor maxName maxSite true false back) 24)).heap.size := by simp
  have key := hide (setup_yes costA maxCost waitedAt walkNum walkNum sent number floor maxName maxSite false back (w.alloc (.cells (inV costA maxCost waitedAt walkNum walkNum sent number floor maxName maxSite true false back) 24)))
  have HI : Hid ((w.alloc (.cells (inV costA maxCost waitedAt walkNum walkNum sent number floor maxName maxSite true false back) 24)).heap[w.heap.size]? = some (.cells (inV costA maxCost waitedAt walkNum walkNum sent number floor maxName maxSite true false back) 24)) := heap_alloc_at _ _ rfl
  have HB0 : Hid (Below w.heap.size w (w.alloc (.cells (inV costA maxCost waitedAt walkNum walkNum sent number floor maxName maxSite true false back) 24))) := (Below.refl _ _).alloc (Nat.le_refl _) _
  unfold inV
  go_enter Yba.func3, Yba.ntmps3
  go_wp2_with fail
  refine key.out.mono ?_
  rintro e w1 ⟨rfl, hR1, hB1⟩
  have hI1 := (hB1.block w.heap.size hnl).trans HI.out
  have HBn : Hid (Below w.heap.size w w1) := HB0.out.trans (hB1.mono (Nat.le_of_lt hnl))
  clear key HI HB0 hB1
  revert hR1 hnl
  generalize (w.alloc (.cells (inV costA maxCost waitedAt walkNum walkNum sent number floor maxName maxSite true false back) 24)).heap.size = n
  intro hnl hR1
  have hIc := cell_in hI1
  have j0 := hIc 0
  have j1 := hIc 1
  have j2 := hIc 2
  have j3 := hIc 3
  have j4 := hIc 4
  have j5 := hIc 5
  have j6 := hIc 6
  have j7 := hIc 7
  have j8 := hIc 8
  have j9 := hIc 9
  have j10 := hIc 10
  have j11 := hIc 11
  have j12 := hIc 12
  simp [inV] at j0 j1 j2 j3 j4 j5 j6 j7 j8 j9 j10 j11 j12
  have lI := lt_in hI1
  have HR1 := hide hR1
  have HI1 := hide hI1
  clear hR1 hI1 hIc
  go_wp2_with fail
  refine (receive_young (HR1.out.alloc _) HY.out).mono ?_
  rintro e w2 ⟨rfl, hR2, hK2⟩
  have hI2 := (hK2.block w.heap.size (by simp; omega) (Or.inl (Nat.le_of_lt hnl))).trans ((heap_alloc_past _ _ lI).trans HI1.out)
  have HBw : Hid (Below w.heap.size w w2) := (HBn.out.trans (((Below.refl w1.heap.size w1).alloc (Nat.le_refl _) _).mono HBn.out.size)).trans ((hK2.toBelow (by have := HR1.out.size; simp; omega)).mono (by omega))
  have hIc := cell_in hI2
  have j0 := hIc 0
  have j1 := hIc 1
  have j2 := hIc 2
  have j3 := hIc 3
  have j4 := hIc 4
  have j5 := hIc 5
  have j6 := hIc 6
  have j7 := hIc 7
  have j8 := hIc 8
  have j9 := hIc 9
  have j10 := hIc 10
  have j11 := hIc 11
  have j12 := hIc 12
  simp [inV] at j0 j1 j2 j3 j4 j5 j6 j7 j8 j9 j10 j11 j12
  have lI2 := lt_in hI2
  clear hIc hI2
  have s2 := cell_in hR2.site 2
  have s23 := cell_in hR2.site 23
  have p6 := cell_in hR2.procs 6
  have q11 := cell_in hR2.srch 11
  have q13 := cell_in hR2.srch 13
  simp [siteA, procsA, srchA] at s2 s23 p6 q11 q13
  have e32 := fun (W : World) (a : Option Addr) (n c : Nat) => Lib.run_eql_slice_nil (P := Yba.prog) W 32 31 a n c 0 0 Yba.underlying32
  have e39 := fun (W : World) (a : Option Addr) (n c : Nat) => Lib.run_eql_slice_nil (P := Yba.prog) W 39 67 a n c 0 0 Yba.underlying39
  clear hR2 hK2
  go_wp2
  go_ret
  exact ⟨rfl, HBw.out⟩

set_option maxRecDepth 100000 in
set_option maxHeartbeats 3200000 in
theorem law_noBack (costA maxCost waitedAt walkNum sent number floor : Int) (maxName maxSite : ByteArray) (w : World) (hy : waitedAt < walkNum) :
    Calls Yba.prog 3 #[.agg (inV costA maxCost waitedAt walkNum walkNum sent number floor maxName maxSite true false 0)] w fun e w' => e = .returned (.bool true) ∧ Below w.heap.size w w' := by
  have HY := hide hy
  have hnl : w.heap.size < (w.alloc (.cells (inV costA maxCost waitedAt walkNum walkNum sent number floor maxName maxSite true false 0) 24)).heap.size := by simp
  have key := hide (setup_yes costA maxCost waitedAt walkNum walkNum sent number floor maxName maxSite false 0 (w.alloc (.cells (inV costA maxCost waitedAt walkNum walkNum sent number floor maxName maxSite true false 0) 24)))
  have HI : Hid ((w.alloc (.cells (inV costA maxCost waitedAt walkNum walkNum sent number floor maxName maxSite true false 0) 24)).heap[w.heap.size]? = some (.cells (inV costA maxCost waitedAt walkNum walkNum sent number floor maxName maxSite true false 0) 24)) := heap_alloc_at _ _ rfl
  have HB0 : Hid (Below w.heap.size w (w.alloc (.cells (inV costA maxCost waitedAt walkNum walkNum sent number floor maxName maxSite true false 0) 24))) := (Below.refl _ _).alloc (Nat.le_refl _) _
  unfold inV
  go_enter Yba.func3, Yba.ntmps3
  go_wp2_with fail
  refine key.out.mono ?_
  rintro e w1 ⟨rfl, hR1, hB1⟩
  have hI1 := (hB1.block w.heap.size hnl).trans HI.out
  have HBn : Hid (Below w.heap.size w w1) := HB0.out.trans (hB1.mono (Nat.le_of_lt hnl))
  clear key HI HB0 hB1
  revert hR1 hnl
  generalize (w.alloc (.cells (inV costA maxCost waitedAt walkNum walkNum sent number floor maxName maxSite true false 0) 24)).heap.size = n
  intro hnl hR1
  have hIc := cell_in hI1
  have j0 := hIc 0
  have j1 := hIc 1
  have j2 := hIc 2
  have j3 := hIc 3
  have j4 := hIc 4
  have j5 := hIc 5
  have j6 := hIc 6
  have j7 := hIc 7
  have j8 := hIc 8
  have j9 := hIc 9
  have j10 := hIc 10
  have j11 := hIc 11
  have j12 := hIc 12
  simp [inV] at j0 j1 j2 j3 j4 j5 j6 j7 j8 j9 j10 j11 j12
  have lI := lt_in hI1
  have HR1 := hide hR1
  have HI1 := hide hI1
  clear hR1 hI1 hIc
  go_wp2_with fail
  refine (receive_noBack (HR1.out.alloc _) HY.out).mono ?_
  rintro e w2 ⟨_, _, rfl, hR2, hK2⟩
  have hI2 := (hK2.block w.heap.size (by simp; omega) (Or.inl (Nat.le_of_lt hnl))).trans ((heap_alloc_past _ _ lI).trans HI1.out)
  have HBw : Hid (Below w.heap.size w w2) := (HBn.out.trans (((Below.refl w1.heap.size w1).alloc (Nat.le_refl _) _).mono HBn.out.size)).trans ((hK2.toBelow (by have := HR1.out.size; simp; omega)).mono (by omega))
  have hIc := cell_in hI2
  have j0 := hIc 0
  have j1 := hIc 1
  have j2 := hIc 2
  have j3 := hIc 3
  have j4 := hIc 4
  have j5 := hIc 5
  have j6 := hIc 6
  have j7 := hIc 7
  have j8 := hIc 8
  have j9 := hIc 9
  have j10 := hIc 10
  have j11 := hIc 11
  have j12 := hIc 12
  simp [inV] at j0 j1 j2 j3 j4 j5 j6 j7 j8 j9 j10 j11 j12
  have lI2 := lt_in hI2
  clear hIc hI2
  have s2 := cell_in hR2.site 2
  have s23 := cell_in hR2.site 23
  have p6 := cell_in hR2.procs 6
  have q11 := cell_in hR2.srch 11
  have q13 := cell_in hR2.srch 13
  simp [siteA, procsA, srchA] at s2 s23 p6 q11 q13
  have e32 := fun (W : World) (a : Option Addr) (n c : Nat) => Lib.run_eql_slice_nil (P := Yba.prog) W 32 31 a n c 0 0 Yba.underlying32
  have e39 := fun (W : World) (a : Option Addr) (n c : Nat) => Lib.run_eql_slice_nil (P := Yba.prog) W 39 67 a n c 0 0 Yba.underlying39
  clear hR2 hK2
  go_wp2
  go_ret
  exact ⟨rfl, HBw.out⟩

end Go.Proofs.Ybulkbviq
