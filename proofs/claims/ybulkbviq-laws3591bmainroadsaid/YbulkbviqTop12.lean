/-
  LawS3591BMainRoad: the walk of the law itself, the confirmation that declares (eqeq).
-/
import Derived.Test.YbulkbviqSetup
import Derived.Test.YbulkbviqRoadM
import Derived.WalkKit
import Derived.WalkSmall
import Derived.WalkSpells
import Derived.WalkLawsBesides
import Derived.Handy
import Derived.Lib.SliceRun
import Derived.BigRegion
import Derived.BigQuiet
import Derived.Deep.QuietTactic
namespace Go.Proofs.Ybulkbviq
open Go.RowKit Go.ChangeMaps

set_option maxRecDepth 100000 in
set_option maxHeartbeats 3200000 in
theorem law_dec_eqeq (costA waitedAt walkNum sent number floor : Int) (maxName maxSite : ByteArray) (back : Int) (w : World) (hy : waitedAt < walkNum) (hbk : (back == 0) = false) (hgt : gtB ⟨#[97]⟩ maxName = false) (hg1 : ([97] == maxName.toList) = true) :
    Calls Yba.prog 3 #[.agg (inV costA costA waitedAt walkNum walkNum sent number floor maxName maxSite true false back)] w fun e w' => e = .returned (.bool true) ∧ Below w.heap.size w w' := by
  have HY := hide hy
  have HBK := hide hbk
  have HVC : Hid (Vic costA costA maxName maxSite maxName maxSite costA) := Or.inr ⟨by unfold gbB; rw [if_pos rfl]; exact hgt, rfl, rfl, rfl⟩
  have HGA := hide hg1
  clear hgt hg1
  have hnl : w.heap.size < (w.alloc (.cells (inV costA costA waitedAt walkNum walkNum sent number floor maxName maxSite true false back) 24)).heap.size := by simp
  have key := hide (setup_yes costA costA waitedAt walkNum walkNum sent number floor maxName maxSite false back (w.alloc (.cells (inV costA costA waitedAt walkNum walkNum sent number floor maxName maxSite true false back) 24)))
  have HI : Hid ((w.alloc (.cells (inV costA costA waitedAt walkNum walkNum sent number floor maxName maxSite true false back) 24)).heap[w.heap.size]? = some (.cells (inV costA costA waitedAt walkNum walkNum sent number floor maxName maxSite true false back) 24)) := heap_alloc_at _ _ rfl
  have HB0 : Hid (Below w.heap.size w (w.alloc (.cells (inV costA costA waitedAt walkNum walkNum sent number floor maxName maxSite true false back) 24))) := (Below.refl _ _).alloc (Nat.le_refl _) _
  unfold inV
  go_enter Yba.func3, Yba.ntmps3
  go_wp2_with fail
  refine key.out.mono ?_
  rintro e w1 ⟨rfl, hR1, hB1⟩
  have hI1 := (hB1.block w.heap.size hnl).trans HI.out
  have HBn : Hid (Below w.heap.size w w1) := HB0.out.trans (hB1.mono (Nat.le_of_lt hnl))
  clear key HI HB0 hB1
  revert hR1 hnl
  generalize (w.alloc (.cells (inV costA costA waitedAt walkNum walkNum sent number floor maxName maxSite true false back) 24)).heap.size = n
  intro hnl hR1
  have hIc := cell_in hI1
  have j0 := hIc 0
  have j1 := hIc 1
  have j2 := hIc 2
  have j3 := hIc 3
  have j4 := hIc 4
  have j5 := hIc 5
  have j6 := hIc 6
  have j7 := hIc 7
  have j8 := hIc 8
  have j9 := hIc 9
  have j10 := hIc 10
  have j11 := hIc 11
  have j12 := hIc 12
  simp [inV] at j0 j1 j2 j3 j4 j5 j6 j7 j8 j9 j10 j11 j12
  have lI := lt_in hI1
  have HR1 := hide hR1
  have HI1 := hide hI1
  clear hR1 hI1 hIc
  go_wp2_with fail
  refine (receive_declare (vp := maxName) (vs := maxSite) (vc := costA) (HR1.out.alloc _) HY.out HVC.out HBK.out).mono ?_
  rintro e w2 ⟨pend, prev, og, rg, rc, dg, dc, st, Z, D, rfl, hR2, hrg, hdg, hst, hog, nrg, ndg, nst, nog, hK2⟩
  have hI2 := (hK2.block w.heap.size (by simp; omega) (Or.inl (Nat.le_of_lt hnl))).trans ((heap_alloc_past _ _ lI).trans HI1.out)
  have HBw : Hid (Below w.heap.size w w2) := (HBn.out.trans (((Below.refl w1.heap.size w1).alloc (Nat.le_refl _) _).mono HBn.out.size)).trans ((hK2.toBelow (by have := HR1.out.size; simp; omega)).mono (by omega))
  have hIc := cell_in hI2
  have j0 := hIc 0
  have j1 := hIc 1
  have j2 := hIc 2
  have j3 := hIc 3
  have j4 := hIc 4
  have j5 := hIc 5
  have j6 := hIc 6
  have j7 := hIc 7
  have j8 := hIc 8
  have j9 := hIc 9
  have j10 := hIc 10
  have j11 := hIc 11
  have j12 := hIc 12
  simp [inV] at j0 j1 j2 j3 j4 j5 j6 j7 j8 j9 j10 j11 j12
  have lI2 := lt_in hI2
  clear hIc hI2
  have s2 := cell_in hR2.site 2
  have s4 := cell_in hR2.site 4
  have s21 := cell_in hR2.site 21
  have s23 := cell_in hR2.site 23
  have p6 := cell_in hR2.procs 6
  have r3 := cell_in hR2.links 3
  have r4 := cell_in hR2.links 4
  have q11 := cell_in hR2.srch 11
  have q13 := cell_in hR2.srch 13
  have d0 := cell_in hdg 0
  have d1 := cell_in hdg 1
  have d2 := cell_in hdg 2
  have d3 := cell_in hdg 3
  have d4 := cell_in hdg 4
  have d5 := cell_in hdg 5
  have g0 := cell_in hrg 0
  have g1 := cell_in hrg 1
  have g2 := cell_in hrg 2
  have t0 := cell_in hst 0
  have t1 := cell_in hst 1
  have t2 := cell_in hst 2
  have t3 := cell_in hst 3
  have t4 := cell_in hst 4
  have t5 := cell_in hst 5
  have m0 := cell_in hog 0
  have m1 := cell_in hog 1
  have m2 := cell_in hog 2
  have m3 := cell_in hog 3
  have m4 := cell_in hog 4
  have m5 := cell_in hog 5
  have m6 := cell_in hog 6
  have m7 := cell_in hog 7
  have m8 := cell_in hog 8
  have m9 := cell_in hog 9
  have m10 := cell_in hog 10
  have m11 := cell_in hog 11
  have m12 := cell_in hog 12
  have m13 := cell_in hog 13
  rw [Array.getElem?_append_left (by simp [dcl6])] at g0 g1 g2 d0 d1 d2 d3 d4 d5
  simp [siteA, procsA, srchA, linksA, nMsg, dcl6] at s2 s4 s21 s23 d0 d1 d2 d3 d4 d5 p6 r3 r4 q11 q13 g0 g1 g2 t0 t1 t2 t3 t4 t5 m0 m1 m2 m3 m4 m5 m6 m7 m8 m9 m10 m11 m12 m13
  have l5 := lt_in hR2.site
  have l8 := lt_in hR2.procs
  have l10 := lt_in hR2.links
  have l12 := lt_in hR2.srch
  have lrg := lt_in hrg
  have lst := lt_in hst
  have log := lt_in hog
  have ldg := lt_in hdg
  have hg1 := HGA.out
  clear HGA
  have lI2_0 : w.heap.size < w2.heap.size + 1 := by omega
  have lI2_1 : w.heap.size < w2.heap.size + 1 + 1 := by omega
  have lI2_2 : w.heap.size < w2.heap.size + 1 + 1 + 1 := by omega
  have l5_0 : n + 5 < w2.heap.size + 1 := by omega
  have l5_1 : n + 5 < w2.heap.size + 1 + 1 := by omega
  have l5_2 : n + 5 < w2.heap.size + 1 + 1 + 1 := by omega
  have l8_0 : n + 8 < w2.heap.size + 1 := by omega
  have l8_1 : n + 8 < w2.heap.size + 1 + 1 := by omega
  have l8_2 : n + 8 < w2.heap.size + 1 + 1 + 1 := by omega
  have l10_0 : n + 10 < w2.heap.size + 1 := by omega
  have l10_1 : n + 10 < w2.heap.size + 1 + 1 := by omega
  have l10_2 : n + 10 < w2.heap.size + 1 + 1 + 1 := by omega
  have l12_0 : n + 12 < w2.heap.size + 1 := by omega
  have l12_1 : n + 12 < w2.heap.size + 1 + 1 := by omega
  have l12_2 : n + 12 < w2.heap.size + 1 + 1 + 1 := by omega
  have lrg_0 : rg < w2.heap.size + 1 := by omega
  have lrg_1 : rg < w2.heap.size + 1 + 1 := by omega
  have lrg_2 : rg < w2.heap.size + 1 + 1 + 1 := by omega
  have lst_0 : st < w2.heap.size + 1 := by omega
  have lst_1 : st < w2.heap.size + 1 + 1 := by omega
  have lst_2 : st < w2.heap.size + 1 + 1 + 1 := by omega
  have log_0 : og < w2.heap.size + 1 := by omega
  have log_1 : og < w2.heap.size + 1 + 1 := by omega
  have log_2 : og < w2.heap.size + 1 + 1 + 1 := by omega
  have ldg_0 : dg < w2.heap.size + 1 := by omega
  have ldg_1 : dg < w2.heap.size + 1 + 1 := by omega
  have ldg_2 : dg < w2.heap.size + 1 + 1 + 1 := by omega
  have ldg_3 : dg < w2.heap.size + 1 + 1 + 1 + 1 := by omega
  have lI2_3 : w.heap.size < w2.heap.size + 1 + 1 + 1 + 1 := by omega
  have l5_3 : n + 5 < w2.heap.size + 1 + 1 + 1 + 1 := by omega
  have l8_3 : n + 8 < w2.heap.size + 1 + 1 + 1 + 1 := by omega
  have l10_3 : n + 10 < w2.heap.size + 1 + 1 + 1 + 1 := by omega
  have l12_3 : n + 12 < w2.heap.size + 1 + 1 + 1 + 1 := by omega
  have lrg_3 : rg < w2.heap.size + 1 + 1 + 1 + 1 := by omega
  have lst_3 : st < w2.heap.size + 1 + 1 + 1 + 1 := by omega
  have log_3 : og < w2.heap.size + 1 + 1 + 1 + 1 := by omega
  clear hR2 hK2 hrg hdg hst hog HY HVC HBK
  go_wp2_with fail
  go_region
  go_wp2_with fail
  go_quiet (fail)
  go_wp2_with fail
  go_quiet (fail)
  go_wp2_with fail
  have hz := HBw.out.size
  go_ret
  refine ⟨rfl, ?_⟩
  repeat (first | with_reducible exact HBw.out | (with_reducible refine below_drewN ?_ _) | (with_reducible refine Below.alloc ?_ ?_ _; rotate_left; (first | omega | (simp; omega))))


end Go.Proofs.Ybulkbviq
