/-
  The main road: receiveConfirmation, where Detect's own search declares.
-/
import Derived.Test.YbulkbviqRoadL
import Derived.WalkKit
import Derived.WalkSpells
import Derived.WalkLawsBesides
import Derived.Handy
import Derived.Deep.RegionHeld3
import Derived.Deep.DrawnRows
import Derived.BigRegion
import Derived.BigQuiet
import Derived.Deep.Cut
import Derived.Deep.CutRange
namespace Go.Proofs.Ybulkbviq
open Go.RowKit Go.ChangeMaps
attribute [local go_sem ↓] Go.wp_at_zero Go.wp_at_succ

theorem settleA_one {V : World} {n : Nat} {walk : Array Value} {waitedAt floor cost : Int} {pend ring settled rw : Value} {made : Int} (g c : Nat) (num back : Int) (home : ByteArray) (dcl : Bool) (h : Road V n (siteA n pend (.slice (some ⟨g, 0, none⟩) 3 c) 0 ring made) (procsA n cost settled) (linksA false false) (srchA n ⟨#[97]⟩ home num back rw dcl) walk waitedAt floor)
    (hg : V.cell? ⟨g, 0, none⟩ = some (.int .i64 (-1))) (hgn : n + 15 ≤ g) {b : Nat} {o : Obj} (hb : V.heap[b]? = some o) (hbn : n + 15 ≤ b) :
    Calls Yba.prog 16 #[.pointer (some ⟨n + 5, 0, none⟩), .pointer (some ⟨n + 12, 0, none⟩), .int .i64 0] V fun e w' => e = .returned (.int .i64 0) ∧
      Road w' n (siteA n pend (.slice (some ⟨g, 0, none⟩) 3 c) 1 ring made) (procsA n cost settled) (linksA false false) (srchA n ⟨#[97]⟩ home num back rw dcl) walk waitedAt floor ∧ Keep n V w' ∧ w'.heap[b]? = some o :=
  (settleWay_a g c num back home dcl h hg hgn).mono fun _ _ ⟨e1, e2, e5⟩ => ⟨e1, e2, e5, (e5.block b (lt_in hb) (Or.inr hbn)).trans hb⟩
theorem settleA_two {V : World} {n : Nat} {walk : Array Value} {waitedAt floor cost : Int} {pend ring settled rw : Value} {made : Int} (g c : Nat) (num back : Int) (home : ByteArray) (dcl : Bool) (h : Road V n (siteA n pend (.slice (some ⟨g, 0, none⟩) 3 c) 0 ring made) (procsA n cost settled) (linksA false false) (srchA n ⟨#[97]⟩ home num back rw dcl) walk waitedAt floor)
    (hg : V.cell? ⟨g, 0, none⟩ = some (.int .i64 (-1))) (hgn : n + 15 ≤ g) {b : Nat} {o : Obj} (hb : V.heap[b]? = some o) (hbn : n + 15 ≤ b) {m : Nat} {o' : Obj} (hm : V.heap[m]? = some o') (hmn : n + 15 ≤ m) :
    Calls Yba.prog 16 #[.pointer (some ⟨n + 5, 0, none⟩), .pointer (some ⟨n + 12, 0, none⟩), .int .i64 0] V fun e w' => e = .returned (.int .i64 0) ∧
      Road w' n (siteA n pend (.slice (some ⟨g, 0, none⟩) 3 c) 1 ring made) (procsA n cost settled) (linksA false false) (srchA n ⟨#[97]⟩ home num back rw dcl) walk waitedAt floor ∧ Keep n V w' ∧ w'.heap[b]? = some o ∧ w'.heap[m]? = some o' :=
  (settleWay_a g c num back home dcl h hg hgn).mono fun _ _ ⟨e1, e2, e5⟩ => ⟨e1, e2, e5, (e5.block b (lt_in hb) (Or.inr hbn)).trans hb, (e5.block m (lt_in hm) (Or.inr hmn)).trans hm⟩

theorem sBack {n : Nat} {W : World} {ini home : ByteArray} {num back : Int} {rw : Value} {dcl : Bool} {mx : Nat} {vp vs : ByteArray} {v2 : Value} (hq : W.heap[n + 12]? = some (.cells (srchA n ini home num back rw dcl) 42)) (hm : W.heap[mx]? = some (.cells #[.string vp, .string vs, v2] 91)) :
    W.cell? ⟨n + 12, 8, none⟩ = some (.int .i64 back) ∧ W.cell? ⟨mx, 0, none⟩ = some (.string vp) ∧ W.cell? ⟨mx, 1, none⟩ = some (.string vs) :=
  ⟨(cell_in hq 8).trans rfl, (cell_in hm 0).trans rfl, (cell_in hm 1).trans rfl⟩

section
variable {w : World} {n : Nat} {procs links srch walk : Array Value} {waitedAt floor cost : Int}

set_option maxRecDepth 100000 in
set_option maxHeartbeats 3200000 in
/-- Detect began the walk, and a probe came back: the search declares. -/
theorem receive_declare {home mn ms vp vs : ByteArray} {num back mc vc walkNum sent : Int} {settled : Value} (h : Road w n (siteA n (.slice none 0 0) (.slice none 0 0) 0 (.slice none 0 0) 0) (procsA n cost settled) (linksA false false) (srchA n ⟨#[97]⟩ home num back (.slice none 0 0) false) (walkA walkNum (-1) sent) waitedAt floor) (hy : waitedAt < walkNum) (hv : Vic cost mc mn ms vp vs vc) (hback : (back == 0) = false) :
    Calls Yba.prog 7 #[.pointer (some ⟨n + 5, 0, none⟩), .pointer (some ⟨n + 12, 0, none⟩), .int .i64 0, .agg (inC ⟨#[98]⟩ mn ms mc walkNum)] w fun e w' => ∃ (pend prev : Value) (og rg rc dg dc st : Nat) (Z D : Array Value), e = .returned (.slice (some ⟨og, 0, none⟩) 1 1) ∧
      Road w' n (siteA n pend prev 1 (.slice (some ⟨dg, 0, none⟩) 1 dc) 1) (procsA n cost (.pointer (some ⟨st, 0, none⟩))) (linksA true true) (srchA n ⟨#[97]⟩ home num back (.slice (some ⟨rg, 0, none⟩) 1 rc) true) (walkA walkNum (-1) sent) waitedAt floor ∧
      w'.heap[rg]? = some (.cells (#[.string ⟨#[97]⟩, .string ⟨#[98]⟩, .string ⟨#[83, 50]⟩] ++ Z) 67) ∧ w'.heap[dg]? = some (.cells (dcl6 1 ⟨#[97]⟩ back vp vs ++ D) 71) ∧ w'.heap[st]? = some (.cells #[.int .u64 num, .string ⟨#[97]⟩, .string ⟨#[83, 49]⟩, .string vp, .string vs, .bool false] 73) ∧
      w'.heap[og]? = some (.cells (nMsg num vp vs) 31) ∧ n + 15 ≤ rg ∧ n + 15 ≤ dg ∧ n + 15 ≤ st ∧ n + 15 ≤ og ∧ Keep n w w' := by
  have HY := hide hy
  have HVC := hide hv
  clear hy hv
  have HH := hide h
  have hsz := h.size
  clear h
  have key := hide (bsearch_eq (n + 14) walkNum (-1) sent ((w.alloc (.cells (inC ⟨#[98]⟩ mn ms mc walkNum) 31)).drew) (HH.out.alloc _).walk)
  have HV : Hid ((w.alloc (.cells (inC ⟨#[98]⟩ mn ms mc walkNum) 31)).heap[w.heap.size]? = some (.cells (inC ⟨#[98]⟩ mn ms mc walkNum) 31)) := heap_alloc_at _ _ rfl
  have HR := hide (HH.out.alloc (.cells (inC ⟨#[98]⟩ mn ms mc walkNum) 31))
  have HA : Hid (∀ w1, Below ((w.alloc (.cells (inC ⟨#[98]⟩ mn ms mc walkNum) 31)).drew).heap.size ((w.alloc (.cells (inC ⟨#[98]⟩ mn ms mc walkNum) 31)).drew) w1 →
      Road w1 n (siteA n (.slice none 0 0) (.slice none 0 0) 0 (.slice none 0 0) 0) (procsA n cost settled) (linksA false false) (srchA n ⟨#[97]⟩ home num back (.slice none 0 0) false) (walkA walkNum (-1) sent) waitedAt floor ∧ w1.heap[w.heap.size]? = some (.cells (inC ⟨#[98]⟩ mn ms mc walkNum) 31) ∧ Keep n w w1) := fun w1 hB =>
    ⟨HR.out.drew.below hB HR.out.drew.size, (hB.block w.heap.size (by simp)).trans HV.out, (((Keep.refl n w).alloc _).drew).below hB⟩
  unfold inC
  go_enter Yba.func7, Yba.ntmps7
  go_wp2
  go_region_held3 (fun w' => w'.cell? ⟨n + 12, 7, none⟩ = some (.slice (some ⟨n + 14, 0, none⟩) 1 1) ∧ w'.cell? ⟨w.heap.size, 11, none⟩ = some (.int .u64 walkNum))
    (first | exact sFirst HR.out.srch HV.out | exact sFirst (HA.out w1 hB1).1.srch (HA.out w1 hB1).2.1)
    (first | (go_at_call 11; refine key.out.mono ?_; rintro e w1 ⟨rfl, hB1⟩))
  obtain ⟨hR1, hv1, hK1⟩ := HA.out w1 hB1
  have c1 := cell_in hR1.site 1
  have x3 := cell_in hv1 3
  have hl := look_b (w := w1.drew) hR1.drew.index
  simp [siteA, inC] at c1 x3
  have H1 := hide hR1
  have HV1 := hide hv1
  have HK1 := hide hK1
  clear hR1 hv1 hK1 key HV HR HA hB1 HH
  go_wp2
  go_region
  have q7 := cell_in H1.out.srch 7
  have k0 := cell_in H1.out.walk 0
  have k1 := cell_in H1.out.walk 1
  have k2 := cell_in H1.out.walk 2
  have k3 := cell_in H1.out.walk 3
  simp [srchA, walkA] at q7 k0 k1 k2 k3
  have l14 := lt_in H1.out.walk
  go_wp2_with fail
  refine (held_yes ((H1.out.drew).alloc (.cells #[.int .u64 walkNum, .int .i64 0, .int .i64 (-1), .int .u64 sent] 84)) walkNum (-1) sent HY.out).mono ?_
  rintro e w2 ⟨pg, pc, g, c, rfl, hR2, hgn, hg2, hK2⟩
  have hw2 : w2.heap[w1.heap.size]? = some (.cells #[.int .u64 walkNum, .int .i64 0, .int .i64 (-1), .int .u64 sent] 84) := (hK2.block w1.heap.size (by simp) (Or.inr H1.out.size)).trans (heap_alloc_at _ _ rfl)
  have hx2 : w2.heap[w.heap.size]? = some (.cells (inC ⟨#[98]⟩ mn ms mc walkNum) 31) := by
    rw [hK2.block w.heap.size (by simp; have := lt_in HV1.out; omega) (Or.inr hsz), heap_alloc_past _ _ (by have := lt_in HV1.out; exact this)]; exact HV1.out
  have b1 := cell_in hw2 1
  have b2 := cell_in hw2 2
  have b3 := cell_in hw2 3
  have q8 := cell_in hR2.srch 8
  simp [srchA] at b1 b2 b3 q8
  have H2 := hide hR2
  have HG2 := hide hg2
  have HW2 := hide hw2
  have HX2 := hide hx2
  have HK2 := hide ((((HK1.out.drew).alloc _)).trans hK2)
  have hs1 := H1.out.size
  clear hR2 hg2 hw2 hx2 hK2 q7 k0 k1 k2 k3 l14 H1 HV1 HK1 c1 x3 hl
  go_wp2
  obtain ⟨s11, s3, m0, m2, m3⟩ := sNames H2.out.srch H2.out.site H2.out.names
  have f11 := free_in H2.out.srch 11
  have l5 := lt_in H2.out.site
  have l9 := lt_in H2.out.names
  have l12 := lt_in H2.out.srch
  have l5b : n + 5 < w2.heap.size + 1 := by omega
  have l9b : n + 9 < w2.heap.size + 1 := by omega
  have l12b : n + 12 < w2.heap.size + 1 := by omega
  have l12c : n + 12 < w2.heap.size + 1 + 1 := by omega
  have hroom := room67
  go_region
  go_wp2
  generalize (Question.appendCap 1 0 67).cut (w2.tape (w2.drawn + 1) (Question.appendCap 1 0 67)) = rc
  generalize Builtin.zeroCells #[.string ⟨#[]⟩, .string ⟨#[]⟩, .string ⟨#[]⟩] (rc - 1) = Z
  have hs2 := H2.out.size
  have lw := lt_in HW2.out
  have lx := lt_in HX2.out
  have lg := World.block_lt_of_cell? _ _ HG2.out
  have hRX := (((((H2.out.q11 (.slice (some ⟨w2.heap.size + 1, 0, none⟩) 1 rc)).alloc (.cells #[.string ⟨#[97]⟩, .string ⟨#[98]⟩, .string ⟨#[83, 50]⟩] 67)).alloc (.cells (#[.string ⟨#[97]⟩, .string ⟨#[98]⟩, .string ⟨#[83, 50]⟩] ++ Z) 67)).drew).drew)
  have hKX := (((((HK2.out.srch 11 (.slice (some ⟨w2.heap.size + 1, 0, none⟩) 1 rc)).alloc (.cells #[.string ⟨#[97]⟩, .string ⟨#[98]⟩, .string ⟨#[83, 50]⟩] 67)).alloc (.cells (#[.string ⟨#[97]⟩, .string ⟨#[98]⟩, .string ⟨#[83, 50]⟩] ++ Z) 67)).drew).drew)
  have hrgX : (((((w2.setCell ⟨n + 12, 11, none⟩ (.slice (some ⟨w2.heap.size + 1, 0, none⟩) 1 rc)).alloc (.cells #[.string ⟨#[97]⟩, .string ⟨#[98]⟩, .string ⟨#[83, 50]⟩] 67)).alloc (.cells (#[.string ⟨#[97]⟩, .string ⟨#[98]⟩, .string ⟨#[83, 50]⟩] ++ Z) 67)).drew).drew).heap[w2.heap.size + 1]? = some (.cells (#[.string ⟨#[97]⟩, .string ⟨#[98]⟩, .string ⟨#[83, 50]⟩] ++ Z) 67) := by
    rw [heap_drew, heap_drew, heap_alloc_at _ _ (by simp)]
  have far : ∀ k, k < w2.heap.size → k ≠ n + 12 → (((((w2.setCell ⟨n + 12, 11, none⟩ (.slice (some ⟨w2.heap.size + 1, 0, none⟩) 1 rc)).alloc (.cells #[.string ⟨#[97]⟩, .string ⟨#[98]⟩, .string ⟨#[83, 50]⟩] 67)).alloc (.cells (#[.string ⟨#[97]⟩, .string ⟨#[98]⟩, .string ⟨#[83, 50]⟩] ++ Z) 67)).drew).drew).heap[k]? = w2.heap[k]? := fun k hk hne => by
    rw [heap_drew, heap_drew, heap_alloc_past _ _ (by simp; omega), heap_alloc_past _ _ (by simpa using hk), Below.heap_setCell _ _ _ _ hne]
  have hwX := (far w1.heap.size lw (by omega)).trans HW2.out
  have hxX := (far w.heap.size lx (by omega)).trans HX2.out
  have hgX := (World.cell?_of_block (a := ⟨g, 0, none⟩) (far g lg (by omega))).trans HG2.out
  clear far H2 HG2 HW2 HX2 HK2 s11 s3 m0 m2 m3 f11 l5 l9 l12 l5b l9b l12b l12c hroom b1 b2 b3 q8
  revert hRX hKX hrgX hwX hxX hgX
  generalize (((((w2.setCell ⟨n + 12, 11, none⟩ (.slice (some ⟨w2.heap.size + 1, 0, none⟩) 1 rc)).alloc (.cells #[.string ⟨#[97]⟩, .string ⟨#[98]⟩, .string ⟨#[83, 50]⟩] 67)).alloc (.cells (#[.string ⟨#[97]⟩, .string ⟨#[98]⟩, .string ⟨#[83, 50]⟩] ++ Z) 67)).drew).drew) = X
  intro hRX hKX hrgX hwX hxX hgX
  have hrn : n + 15 ≤ w2.heap.size + 1 := by omega
  generalize w2.heap.size + 1 = rg at hRX hrgX hrn ⊢
  have HRX := hide hRX
  have HKX := hide hKX
  have HRG := hide hrgX
  have HWX := hide hwX
  have HXX := hide hxX
  have HGX := hide hgX
  have lrg := lt_in hrgX
  have lwX := lt_in hwX
  have lxX := lt_in hxX
  clear hRX hKX hrgX hwX hxX hgX hs2 lw lx lg
  go_cut [14] from 16 (fun v wc => ∃ mx : Nat, v = .pointer (some ⟨mx, 0, none⟩) ∧ Tail n w wc (siteA n (.slice (some ⟨pg, 0, none⟩) 0 pc) (.slice (some ⟨g, 0, none⟩) 3 c) 1 (.slice none 0 0) 0) (procsA n cost settled) (linksA false false) (srchA n ⟨#[97]⟩ home num back (.slice (some ⟨rg, 0, none⟩) 1 rc) false) (walkA walkNum (-1) sent) waitedAt floor mx (.string vp) (.string vs) (.int .u64 vc) w1.heap.size (.cells #[.int .u64 walkNum, .int .i64 0, .int .i64 (-1), .int .u64 sent] 84) rg (.cells (#[.string ⟨#[97]⟩, .string ⟨#[98]⟩, .string ⟨#[83, 50]⟩] ++ Z) 67) rg (.cells (#[.string ⟨#[97]⟩, .string ⟨#[98]⟩, .string ⟨#[83, 50]⟩] ++ Z) 67))
  case first =>
    have hnX : n + 15 ≤ X.heap.size := HRX.out.size
    have HXb : Hid (((X.alloc (.cells #[.string ⟨#[]⟩, .string ⟨#[]⟩, .int .u64 0] 91)).drew).heap[w.heap.size]? = some (.cells (inC ⟨#[98]⟩ mn ms mc walkNum) 31)) := by
      show _ = _
      rw [heap_drew, heap_alloc_past _ _ lxX]; exact HXX.out
    have HGb : Hid (((X.alloc (.cells #[.string ⟨#[]⟩, .string ⟨#[]⟩, .int .u64 0] 91)).drew).cell? ⟨g, 0, none⟩ = some (.int .i64 (-1))) := by
      show _ = _
      rw [cell_drew, World.cell?_alloc_past _ _ _ (World.block_lt_of_cell? _ _ HGX.out)]; exact HGX.out
    have HMb : Hid (((X.alloc (.cells #[.string ⟨#[]⟩, .string ⟨#[]⟩, .int .u64 0] 91)).drew).heap[X.heap.size]? = some (.cells #[.string ⟨#[]⟩, .string ⟨#[]⟩, .int .u64 0] 91)) := by
      show _ = _
      rw [heap_drew, heap_alloc_at _ _ rfl]
    have HXd : Hid (X.drew.heap[w.heap.size]? = some (.cells (inC ⟨#[98]⟩ mn ms mc walkNum) 31)) := HXX.out
    have kA := hide (settleA_one (V := X.drew) g c num back home false HRX.out.drew HGX.out hgn HXX.out hsz)
    have kB := hide (settleA_two (V := (X.alloc (.cells #[.string ⟨#[]⟩, .string ⟨#[]⟩, .int .u64 0] 91)).drew) g c num back home false ((HRX.out.alloc (.cells #[.string ⟨#[]⟩, .string ⟨#[]⟩, .int .u64 0] 91)).drew) HGb.out hgn HXb.out hsz HMb.out hnX)
    have nA : w.heap.size ≠ X.heap.size := by omega
    have HNA := hide nA
    clear nA
    go_region_held3 (fun w' => w'.cell? ⟨w.heap.size, 8, none⟩ = some (.string mn) ∧ w'.cell? ⟨w.heap.size, 9, none⟩ = some (.string ms) ∧ w'.cell? ⟨w.heap.size, 10, none⟩ = some (.int .u64 mc))
      (first | with_reducible exact sC HXd.out | with_reducible exact sC HXb.out | with_reducible exact sC hx5 | with_reducible exact sC hx4 | with_reducible exact sC ((heap_alloc_past _ _ (lt_in hx5)).trans hx5) | with_reducible exact sC ((heap_alloc_past _ _ (lt_in hx4)).trans hx4) | with_reducible exact sC ((Below.heap_setCell _ _ _ _ HNA.out).trans ((Below.heap_setCell _ _ _ _ HNA.out).trans ((Below.heap_setCell _ _ _ _ HNA.out).trans hx5))) | with_reducible exact sC ((Below.heap_setCell _ _ _ _ (Nat.ne_of_lt (lt_in hx4))).trans ((Below.heap_setCell _ _ _ _ (Nat.ne_of_lt (lt_in hx4))).trans ((Below.heap_setCell _ _ _ _ (Nat.ne_of_lt (lt_in hx4))).trans hx5))))
      (first
        | (go_at_call 16; with_reducible refine kA.out.mono ?_; rintro e w4 ⟨rfl, hR4, hK4, hx4⟩)
        | (go_at_call 16; with_reducible refine kB.out.mono ?_; rintro e w4 ⟨rfl, hR4, hK4, hx4, hmx4⟩)
        | (go_at_call 15; with_reducible refine (firstOf_two hR4 HVC.out hx4 hmx4).mono ?_; rintro e w5 ⟨rfl, hB5, hx5, hm5, t0, t1, t2, tf, tl⟩)
        | (go_at_call 15; with_reducible refine (firstOf_two (hR4.alloc (.cells #[.string ⟨#[]⟩, .string ⟨#[]⟩, .int .u64 0] 91)) HVC.out ((heap_alloc_past _ _ (lt_in hx4)).trans hx4) (heap_alloc_at (.cells #[.string ⟨#[]⟩, .string ⟨#[]⟩, .int .u64 0] 91) _ rfl)).mono ?_; rintro e w5 ⟨rfl, hB5, hx5, hm5, t0, t1, t2, tf, tl⟩)
        | (go_at_call 15; with_reducible refine (firstOf_one hR4 HVC.out hx4).mono ?_; rintro e w5 ⟨rfl, hB5, hx5⟩))
    · have wk4 := (hK4.block w1.heap.size lwX (Or.inr hs1)).trans HWX.out
      have rg4 := (hK4.block rg lrg (Or.inr hrn)).trans HRG.out
      have T := tail_new (v0 := .string vp) (v1 := .string vs) (v2 := .int .u64 vc) hR4 (HKX.out.drew.trans hK4) hB5 wk4 rg4 rg4
      go_wp2_with fail
      go_meet
      case rel => exact ⟨w5.heap.size, rfl, T⟩
    · have wk4 := (hK4.block w1.heap.size lwX (Or.inr hs1)).trans HWX.out
      have rg4 := (hK4.block rg lrg (Or.inr hrn)).trans HRG.out
      have T := tail_mid (v0 := .string vp) (v1 := .string vs) (v2 := .int .u64 vc) hR4 (HKX.out.drew.trans hK4) hB5 hm5.out wk4 rg4 rg4
      go_wp2_with fail
      go_meet
      case rel => exact ⟨w4.heap.size, rfl, T⟩
    · have wk4 := (hK4.block w1.heap.size (by simp; omega) (Or.inr hs1)).trans ((heap_alloc_past _ _ lwX).trans HWX.out)
      have rg4 := (hK4.block rg (by simp; omega) (Or.inr hrn)).trans ((heap_alloc_past _ _ lrg).trans HRG.out)
      have T := tail_old (v0 := .string vp) (v1 := .string vs) (v2 := .int .u64 vc) hR4 (((HKX.out.alloc _).drew).trans hK4) hB5 hm5.out wk4 rg4 rg4 hnX (HKX.out.size) (by omega) (by omega) (by omega)
      go_wp2_with fail
      go_meet
      case rel => exact ⟨X.heap.size, rfl, T⟩
  case rest =>
    obtain ⟨mx, rfl, T⟩ := hcut
    clear HRX HKX HRG HWX HXX HGX HVC lrg lwX lxX
    have b2 := (cell_in T.wkb 2).trans (rfl : _ = some (Value.int .i64 (-1)))
    have key := hide (declareRing_any T.road.drew back vp vs)
    have HTd := hide T.drew
    have up6 : ∀ w6, Keep n wc.drew w6 → w6.heap[mx]? = some (.cells #[.string vp, .string vs, .int .u64 vc] 91) := fun w6 hK6 => (hK6.block mx (lt_in HTd.out.mxb) (Or.inr HTd.out.mxn)).trans HTd.out.mxb
    have HU6 := hide up6
    clear up6 T
    go_wp2
    go_region_held3 (fun w' => w'.cell? ⟨n + 12, 8, none⟩ = some (.int .i64 back) ∧ w'.cell? ⟨mx, 0, none⟩ = some (.string vp) ∧ w'.cell? ⟨mx, 1, none⟩ = some (.string vs))
      (first | with_reducible exact sBack HTd.out.road.srch HTd.out.mxb | with_reducible exact sBack hR6.srch (HU6.out w6 hK6))
      (first | (go_at_call 18; with_reducible refine key.out.mono ?_; rintro e w6 ⟨og, dg, dc, st, D, rfl, hR6, hdg, hst, hog, ndg, nst, nog, hK6⟩))
    go_wp2
    go_ret
    exact ⟨_, _, og, rg, rc, dg, dc, st, Z, D, rfl, hR6, (hK6.block rg (lt_in HTd.out.rgb) (Or.inr hrn)).trans HTd.out.rgb, hdg, hst, hog, hrn, ndg, nst, nog, HTd.out.keep.trans hK6⟩

end
end Go.Proofs.Ybulkbviq
