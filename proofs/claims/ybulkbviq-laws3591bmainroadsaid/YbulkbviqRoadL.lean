/-
  The main road: receiveConfirmation, the confirmation that goes on.
-/
import Derived.Test.YbulkbviqRoadK
import Derived.WalkKit
import Derived.WalkSpells
import Derived.WalkLawsBesides
import Derived.Handy
import Derived.Deep.RegionHeld3
import Derived.Deep.DrawnRows
import Derived.BigRegion
import Derived.BigQuiet
import Derived.Deep.Cut
import Derived.Deep.CutRange
namespace Go.Proofs.Ybulkbviq
open Go.RowKit Go.ChangeMaps
attribute [local go_sem ↓] Go.wp_at_zero Go.wp_at_succ

section
variable {n : Nat} {w Y : World} {site procs links srch walk : Array Value} {waitedAt floor : Int} {v0 v1 v2 : Value} {mx wb st rg : Nat} {wo so ro : Obj}
theorem Tail.alloc (T : Tail n w Y site procs links srch walk waitedAt floor mx v0 v1 v2 wb wo st so rg ro) (o : Obj) : Tail n w (Y.alloc o) site procs links srch walk waitedAt floor mx v0 v1 v2 wb wo st so rg ro :=
  have up : ∀ b o', Y.heap[b]? = some o' → (Y.alloc o).heap[b]? = some o' := fun _ _ hb => (heap_alloc_past _ _ (lt_in hb)).trans hb
  ⟨T.road.alloc o, T.keep.alloc o, up _ _ T.mxb, up _ _ T.wkb, up _ _ T.stb, up _ _ T.rgb, T.mxn⟩
theorem Tail.drew (T : Tail n w Y site procs links srch walk waitedAt floor mx v0 v1 v2 wb wo st so rg ro) : Tail n w Y.drew site procs links srch walk waitedAt floor mx v0 v1 v2 wb wo st so rg ro :=
  ⟨T.road.drew, T.keep.drew, T.mxb, T.wkb, T.stb, T.rgb, T.mxn⟩
theorem Tail.below {Y' : World} (T : Tail n w Y site procs links srch walk waitedAt floor mx v0 v1 v2 wb wo st so rg ro) (hB : Below Y.heap.size Y Y') : Tail n w Y' site procs links srch walk waitedAt floor mx v0 v1 v2 wb wo st so rg ro :=
  have up : ∀ b o', Y.heap[b]? = some o' → Y'.heap[b]? = some o' := fun b _ hb => (hB.block b (lt_in hb)).trans hb
  ⟨T.road.below hB T.road.size, T.keep.below hB, up _ _ T.mxb, up _ _ T.wkb, up _ _ T.stb, up _ _ T.rgb, T.mxn⟩
end

/-- What the last region reads. -/
theorem sLast {n : Nat} {w W : World} {pend prev ring : Value} {unr made : Int} {procs links srch walk : Array Value} {waitedAt floor : Int} {vp vs : ByteArray} {vc num sender sent : Int} {mx wb st rg sb : Nat} {so ro : Obj} {x y : ByteArray}
    (T : Tail n w W (siteA n pend prev unr ring made) procs links srch walk waitedAt floor mx (.string vp) (.string vs) (.int .u64 vc) wb (.cells #[.int .u64 num, .int .i64 0, .int .i64 sender, .int .u64 sent] 84) st so rg ro) (hv : W.heap[sb]? = some (.cells #[.string x, .string y] 65)) :
    W.cell? ⟨n + 5, 3, none⟩ = some (.slice (some ⟨n + 9, 0, none⟩) 3 3) ∧ W.cell? ⟨n + 9, 0, none⟩ = some (.string ⟨#[97]⟩) ∧ W.cell? ⟨wb, 1, none⟩ = some (.int .i64 0) ∧ W.cell? ⟨wb, 3, none⟩ = some (.int .u64 sent) ∧
      W.cell? ⟨mx, 0, none⟩ = some (.string vp) ∧ W.cell? ⟨mx, 1, none⟩ = some (.string vs) ∧ W.cell? ⟨mx, 2, none⟩ = some (.int .u64 vc) ∧ W.cell? ⟨sb, 0, none⟩ = some (.string x) ∧ W.cell? ⟨sb, 1, none⟩ = some (.string y) :=
  ⟨(cell_in T.road.site 3).trans rfl, (cell_in T.road.names 0).trans rfl, (cell_in T.wkb 1).trans rfl, (cell_in T.wkb 3).trans rfl, (cell_in T.mxb 0).trans rfl, (cell_in T.mxb 1).trans rfl, (cell_in T.mxb 2).trans rfl, (cell_in hv 0).trans rfl, (cell_in hv 1).trans rfl⟩

section
variable {w : World} {n : Nat} {procs links srch walk : Array Value} {waitedAt floor cost : Int}

set_option maxRecDepth 100000 in
set_option maxHeartbeats 3200000 in
/-- The confirmation goes on back. -/
theorem receive_on {home mn ms vp vs : ByteArray} {num back mc vc walkNum sent : Int} {settled : Value} (h : Road w n (siteA n (.slice none 0 0) (.slice none 0 0) 0 (.slice none 0 0) 0) (procsA n cost settled) (linksA false false) (srchA n ⟨#[120]⟩ home num back (.slice none 0 0) false) (walkA walkNum 2 sent) waitedAt floor) (hy : waitedAt < walkNum) (hv : Vic cost mc mn ms vp vs vc) :
    Calls Yba.prog 7 #[.pointer (some ⟨n + 5, 0, none⟩), .pointer (some ⟨n + 12, 0, none⟩), .int .i64 0, .agg (inC ⟨#[98]⟩ mn ms mc walkNum)] w fun e w' => ∃ (pend prev : Value) (og rg rc st : Nat) (Z : Array Value), e = .returned (.slice (some ⟨og, 0, none⟩) 1 1) ∧
      Road w' n (siteA n pend prev 1 (.slice none 0 0) 0) (procsA n cost (.pointer (some ⟨st, 0, none⟩))) (linksA false true) (srchA n ⟨#[120]⟩ home num back (.slice (some ⟨rg, 0, none⟩) 1 rc) false) (walkA walkNum 2 sent) waitedAt floor ∧
      w'.heap[rg]? = some (.cells (#[.string ⟨#[97]⟩, .string ⟨#[98]⟩, .string ⟨#[83, 50]⟩] ++ Z) 67) ∧ w'.heap[st]? = some (.cells #[.int .u64 num, .string ⟨#[120]⟩, .string home, .string ⟨#[]⟩, .string ⟨#[]⟩, .bool false] 73) ∧
      w'.heap[og]? = some (.cells (cMsg ⟨#[120]⟩ home num ⟨#[97]⟩ ⟨#[99]⟩ ⟨#[83, 51]⟩ vp vs vc sent floor) 31) ∧ n + 15 ≤ rg ∧ n + 15 ≤ st ∧ n + 15 ≤ og ∧ Keep n w w' := by
  have HY := hide hy
  have HVC := hide hv
  clear hy hv
  have HH := hide h
  have hsz := h.size
  clear h
  have key := hide (bsearch_eq (n + 14) walkNum (2) sent ((w.alloc (.cells (inC ⟨#[98]⟩ mn ms mc walkNum) 31)).drew) (HH.out.alloc _).walk)
  have HV : Hid ((w.alloc (.cells (inC ⟨#[98]⟩ mn ms mc walkNum) 31)).heap[w.heap.size]? = some (.cells (inC ⟨#[98]⟩ mn ms mc walkNum) 31)) := heap_alloc_at _ _ rfl
  have HR := hide (HH.out.alloc (.cells (inC ⟨#[98]⟩ mn ms mc walkNum) 31))
  have HA : Hid (∀ w1, Below ((w.alloc (.cells (inC ⟨#[98]⟩ mn ms mc walkNum) 31)).drew).heap.size ((w.alloc (.cells (inC ⟨#[98]⟩ mn ms mc walkNum) 31)).drew) w1 →
      Road w1 n (siteA n (.slice none 0 0) (.slice none 0 0) 0 (.slice none 0 0) 0) (procsA n cost settled) (linksA false false) (srchA n ⟨#[120]⟩ home num back (.slice none 0 0) false) (walkA walkNum (2) sent) waitedAt floor ∧ w1.heap[w.heap.size]? = some (.cells (inC ⟨#[98]⟩ mn ms mc walkNum) 31) ∧ Keep n w w1) := fun w1 hB =>
    ⟨HR.out.drew.below hB HR.out.drew.size, (hB.block w.heap.size (by simp)).trans HV.out, (((Keep.refl n w).alloc _).drew).below hB⟩
  unfold inC
  go_enter Yba.func7, Yba.ntmps7
  go_wp2
  go_region_held3 (fun w' => w'.cell? ⟨n + 12, 7, none⟩ = some (.slice (some ⟨n + 14, 0, none⟩) 1 1) ∧ w'.cell? ⟨w.heap.size, 11, none⟩ = some (.int .u64 walkNum))
    (first | exact sFirst HR.out.srch HV.out | exact sFirst (HA.out w1 hB1).1.srch (HA.out w1 hB1).2.1)
    (first | (go_at_call 11; refine key.out.mono ?_; rintro e w1 ⟨rfl, hB1⟩))
  obtain ⟨hR1, hv1, hK1⟩ := HA.out w1 hB1
  have c1 := cell_in hR1.site 1
  have x3 := cell_in hv1 3
  have hl := look_b (w := w1.drew) hR1.drew.index
  simp [siteA, inC] at c1 x3
  have H1 := hide hR1
  have HV1 := hide hv1
  have HK1 := hide hK1
  clear hR1 hv1 hK1 key HV HR HA hB1 HH
  go_wp2
  go_region
  have q7 := cell_in H1.out.srch 7
  have k0 := cell_in H1.out.walk 0
  have k1 := cell_in H1.out.walk 1
  have k2 := cell_in H1.out.walk 2
  have k3 := cell_in H1.out.walk 3
  simp [srchA, walkA] at q7 k0 k1 k2 k3
  have l14 := lt_in H1.out.walk
  go_wp2_with fail
  refine (held_yes ((H1.out.drew).alloc (.cells #[.int .u64 walkNum, .int .i64 0, .int .i64 (2), .int .u64 sent] 84)) walkNum (2) sent HY.out).mono ?_
  rintro e w2 ⟨pg, pc, g, c, rfl, hR2, hgn, hg2, hK2⟩
  have hw2 : w2.heap[w1.heap.size]? = some (.cells #[.int .u64 walkNum, .int .i64 0, .int .i64 (2), .int .u64 sent] 84) := (hK2.block w1.heap.size (by simp) (Or.inr H1.out.size)).trans (heap_alloc_at _ _ rfl)
  have hx2 : w2.heap[w.heap.size]? = some (.cells (inC ⟨#[98]⟩ mn ms mc walkNum) 31) := by
    rw [hK2.block w.heap.size (by simp; have := lt_in HV1.out; omega) (Or.inr hsz), heap_alloc_past _ _ (by have := lt_in HV1.out; exact this)]; exact HV1.out
  have b1 := cell_in hw2 1
  have b2 := cell_in hw2 2
  have b3 := cell_in hw2 3
  have q8 := cell_in hR2.srch 8
  simp [srchA] at b1 b2 b3 q8
  have H2 := hide hR2
  have HG2 := hide hg2
  have HW2 := hide hw2
  have HX2 := hide hx2
  have HK2 := hide ((((HK1.out.drew).alloc _)).trans hK2)
  have hs1 := H1.out.size
  clear hR2 hg2 hw2 hx2 hK2 q7 k0 k1 k2 k3 l14 H1 HV1 HK1 c1 x3 hl
  go_wp2
  obtain ⟨s11, s3, m0, m2, m3⟩ := sNames H2.out.srch H2.out.site H2.out.names
  have f11 := free_in H2.out.srch 11
  have l5 := lt_in H2.out.site
  have l9 := lt_in H2.out.names
  have l12 := lt_in H2.out.srch
  have l5b : n + 5 < w2.heap.size + 1 := by omega
  have l9b : n + 9 < w2.heap.size + 1 := by omega
  have l12b : n + 12 < w2.heap.size + 1 := by omega
  have l12c : n + 12 < w2.heap.size + 1 + 1 := by omega
  have hroom := room67
  go_region
  go_wp2
  generalize (Question.appendCap 1 0 67).cut (w2.tape (w2.drawn + 1) (Question.appendCap 1 0 67)) = rc
  generalize Builtin.zeroCells #[.string ⟨#[]⟩, .string ⟨#[]⟩, .string ⟨#[]⟩] (rc - 1) = Z
  have hs2 := H2.out.size
  have lw := lt_in HW2.out
  have lx := lt_in HX2.out
  have lg := World.block_lt_of_cell? _ _ HG2.out
  have hRX := (((((H2.out.q11 (.slice (some ⟨w2.heap.size + 1, 0, none⟩) 1 rc)).alloc (.cells #[.string ⟨#[97]⟩, .string ⟨#[98]⟩, .string ⟨#[83, 50]⟩] 67)).alloc (.cells (#[.string ⟨#[97]⟩, .string ⟨#[98]⟩, .string ⟨#[83, 50]⟩] ++ Z) 67)).drew).drew)
  have hKX := (((((HK2.out.srch 11 (.slice (some ⟨w2.heap.size + 1, 0, none⟩) 1 rc)).alloc (.cells #[.string ⟨#[97]⟩, .string ⟨#[98]⟩, .string ⟨#[83, 50]⟩] 67)).alloc (.cells (#[.string ⟨#[97]⟩, .string ⟨#[98]⟩, .string ⟨#[83, 50]⟩] ++ Z) 67)).drew).drew)
  have hrgX : (((((w2.setCell ⟨n + 12, 11, none⟩ (.slice (some ⟨w2.heap.size + 1, 0, none⟩) 1 rc)).alloc (.cells #[.string ⟨#[97]⟩, .string ⟨#[98]⟩, .string ⟨#[83, 50]⟩] 67)).alloc (.cells (#[.string ⟨#[97]⟩, .string ⟨#[98]⟩, .string ⟨#[83, 50]⟩] ++ Z) 67)).drew).drew).heap[w2.heap.size + 1]? = some (.cells (#[.string ⟨#[97]⟩, .string ⟨#[98]⟩, .string ⟨#[83, 50]⟩] ++ Z) 67) := by
    rw [heap_drew, heap_drew, heap_alloc_at _ _ (by simp)]
  have far : ∀ k, k < w2.heap.size → k ≠ n + 12 → (((((w2.setCell ⟨n + 12, 11, none⟩ (.slice (some ⟨w2.heap.size + 1, 0, none⟩) 1 rc)).alloc (.cells #[.string ⟨#[97]⟩, .string ⟨#[98]⟩, .string ⟨#[83, 50]⟩] 67)).alloc (.cells (#[.string ⟨#[97]⟩, .string ⟨#[98]⟩, .string ⟨#[83, 50]⟩] ++ Z) 67)).drew).drew).heap[k]? = w2.heap[k]? := fun k hk hne => by
    rw [heap_drew, heap_drew, heap_alloc_past _ _ (by simp; omega), heap_alloc_past _ _ (by simpa using hk), Below.heap_setCell _ _ _ _ hne]
  have hwX := (far w1.heap.size lw (by omega)).trans HW2.out
  have hxX := (far w.heap.size lx (by omega)).trans HX2.out
  have hgX := (World.cell?_of_block (a := ⟨g, 0, none⟩) (far g lg (by omega))).trans HG2.out
  clear far H2 HG2 HW2 HX2 HK2 s11 s3 m0 m2 m3 f11 l5 l9 l12 l5b l9b l12b l12c hroom b1 b2 b3 q8
  revert hRX hKX hrgX hwX hxX hgX
  generalize (((((w2.setCell ⟨n + 12, 11, none⟩ (.slice (some ⟨w2.heap.size + 1, 0, none⟩) 1 rc)).alloc (.cells #[.string ⟨#[97]⟩, .string ⟨#[98]⟩, .string ⟨#[83, 50]⟩] 67)).alloc (.cells (#[.string ⟨#[97]⟩, .string ⟨#[98]⟩, .string ⟨#[83, 50]⟩] ++ Z) 67)).drew).drew) = X
  intro hRX hKX hrgX hwX hxX hgX
  have hrn : n + 15 ≤ w2.heap.size + 1 := by omega
  generalize w2.heap.size + 1 = rg at hRX hrgX hrn ⊢
  have HRX := hide hRX
  have HKX := hide hKX
  have HRG := hide hrgX
  have HWX := hide hwX
  have HXX := hide hxX
  have HGX := hide hgX
  have lrg := lt_in hrgX
  have lwX := lt_in hwX
  have lxX := lt_in hxX
  clear hRX hKX hrgX hwX hxX hgX hs2 lw lx lg
  go_cut [14] from 16 (fun v wc => ∃ mx st : Nat, v = .pointer (some ⟨mx, 0, none⟩) ∧ n + 15 ≤ st ∧ Tail n w wc (siteA n (.slice (some ⟨pg, 0, none⟩) 0 pc) (.slice (some ⟨g, 0, none⟩) 3 c) 1 (.slice none 0 0) 0) (procsA n cost (.pointer (some ⟨st, 0, none⟩))) (linksA false true) (srchA n ⟨#[120]⟩ home num back (.slice (some ⟨rg, 0, none⟩) 1 rc) false) (walkA walkNum 2 sent) waitedAt floor mx (.string vp) (.string vs) (.int .u64 vc) w1.heap.size (.cells #[.int .u64 walkNum, .int .i64 0, .int .i64 2, .int .u64 sent] 84) st (.cells #[.int .u64 num, .string ⟨#[120]⟩, .string home, .string ⟨#[]⟩, .string ⟨#[]⟩, .bool false] 73) rg (.cells (#[.string ⟨#[97]⟩, .string ⟨#[98]⟩, .string ⟨#[83, 50]⟩] ++ Z) 67))
  case first =>
    have hnX : n + 15 ≤ X.heap.size := HRX.out.size
    have HXb : Hid (((X.alloc (.cells #[.string ⟨#[]⟩, .string ⟨#[]⟩, .int .u64 0] 91)).drew).heap[w.heap.size]? = some (.cells (inC ⟨#[98]⟩ mn ms mc walkNum) 31)) := by
      show _ = _
      rw [heap_drew, heap_alloc_past _ _ lxX]; exact HXX.out
    have HGb : Hid (((X.alloc (.cells #[.string ⟨#[]⟩, .string ⟨#[]⟩, .int .u64 0] 91)).drew).cell? ⟨g, 0, none⟩ = some (.int .i64 (-1))) := by
      show _ = _
      rw [cell_drew, World.cell?_alloc_past _ _ _ (World.block_lt_of_cell? _ _ HGX.out)]; exact HGX.out
    have HMb : Hid (((X.alloc (.cells #[.string ⟨#[]⟩, .string ⟨#[]⟩, .int .u64 0] 91)).drew).heap[X.heap.size]? = some (.cells #[.string ⟨#[]⟩, .string ⟨#[]⟩, .int .u64 0] 91)) := by
      show _ = _
      rw [heap_drew, heap_alloc_at _ _ rfl]
    have HXd : Hid (X.drew.heap[w.heap.size]? = some (.cells (inC ⟨#[98]⟩ mn ms mc walkNum) 31)) := HXX.out
    have kA := hide (settle_one (V := X.drew) g c num back home false HRX.out.drew HGX.out hgn HXX.out hsz)
    have kB := hide (settle_two (V := (X.alloc (.cells #[.string ⟨#[]⟩, .string ⟨#[]⟩, .int .u64 0] 91)).drew) g c num back home false ((HRX.out.alloc (.cells #[.string ⟨#[]⟩, .string ⟨#[]⟩, .int .u64 0] 91)).drew) HGb.out hgn HXb.out hsz HMb.out hnX)
    have nA : w.heap.size ≠ X.heap.size := by omega
    have HNA := hide nA
    clear nA
    go_region_held3 (fun w' => w'.cell? ⟨w.heap.size, 8, none⟩ = some (.string mn) ∧ w'.cell? ⟨w.heap.size, 9, none⟩ = some (.string ms) ∧ w'.cell? ⟨w.heap.size, 10, none⟩ = some (.int .u64 mc))
      (first | with_reducible exact sC HXd.out | with_reducible exact sC HXb.out | with_reducible exact sC hx5 | with_reducible exact sC hx4 | with_reducible exact sC ((heap_alloc_past _ _ (lt_in hx5)).trans hx5) | with_reducible exact sC ((heap_alloc_past _ _ (lt_in hx4)).trans hx4) | with_reducible exact sC ((Below.heap_setCell _ _ _ _ HNA.out).trans ((Below.heap_setCell _ _ _ _ HNA.out).trans ((Below.heap_setCell _ _ _ _ HNA.out).trans hx5))) | with_reducible exact sC ((Below.heap_setCell _ _ _ _ (Nat.ne_of_lt (lt_in hx4))).trans ((Below.heap_setCell _ _ _ _ (Nat.ne_of_lt (lt_in hx4))).trans ((Below.heap_setCell _ _ _ _ (Nat.ne_of_lt (lt_in hx4))).trans hx5))))
      (first
        | (go_at_call 16; with_reducible refine kA.out.mono ?_; rintro e w4 ⟨st, rfl, hR4, hst4, hstn, hK4, hx4⟩)
        | (go_at_call 16; with_reducible refine kB.out.mono ?_; rintro e w4 ⟨st, rfl, hR4, hst4, hstn, hK4, hx4, hmx4⟩)
        | (go_at_call 15; with_reducible refine (firstOf_two hR4 HVC.out hx4 hmx4).mono ?_; rintro e w5 ⟨rfl, hB5, hx5, hm5, t0, t1, t2, tf, tl⟩)
        | (go_at_call 15; with_reducible refine (firstOf_two (hR4.alloc (.cells #[.string ⟨#[]⟩, .string ⟨#[]⟩, .int .u64 0] 91)) HVC.out ((heap_alloc_past _ _ (lt_in hx4)).trans hx4) (heap_alloc_at (.cells #[.string ⟨#[]⟩, .string ⟨#[]⟩, .int .u64 0] 91) _ rfl)).mono ?_; rintro e w5 ⟨rfl, hB5, hx5, hm5, t0, t1, t2, tf, tl⟩)
        | (go_at_call 15; with_reducible refine (firstOf_one hR4 HVC.out hx4).mono ?_; rintro e w5 ⟨rfl, hB5, hx5⟩))
    · have wk4 := (hK4.block w1.heap.size lwX (Or.inr hs1)).trans HWX.out
      have rg4 := (hK4.block rg lrg (Or.inr hrn)).trans HRG.out
      have T := tail_new (v0 := .string vp) (v1 := .string vs) (v2 := .int .u64 vc) hR4 (HKX.out.drew.trans hK4) hB5 wk4 hst4 rg4
      go_wp2_with fail
      go_meet
      case rel => exact ⟨w5.heap.size, st, rfl, hstn, T⟩
    · have wk4 := (hK4.block w1.heap.size lwX (Or.inr hs1)).trans HWX.out
      have rg4 := (hK4.block rg lrg (Or.inr hrn)).trans HRG.out
      have T := tail_mid (v0 := .string vp) (v1 := .string vs) (v2 := .int .u64 vc) hR4 (HKX.out.drew.trans hK4) hB5 hm5.out wk4 hst4 rg4
      go_wp2_with fail
      go_meet
      case rel => exact ⟨w4.heap.size, st, rfl, hstn, T⟩
    · have ns : st ≠ X.heap.size := fun e => by rw [e, hmx4] at hst4; simp at hst4
      have wk4 := (hK4.block w1.heap.size (by simp; omega) (Or.inr hs1)).trans ((heap_alloc_past _ _ lwX).trans HWX.out)
      have rg4 := (hK4.block rg (by simp; omega) (Or.inr hrn)).trans ((heap_alloc_past _ _ lrg).trans HRG.out)
      have T := tail_old (v0 := .string vp) (v1 := .string vs) (v2 := .int .u64 vc) hR4 (((HKX.out.alloc _).drew).trans hK4) hB5 hm5.out wk4 hst4 rg4 hnX (HKX.out.size) (by omega) ns (by omega)
      go_wp2_with fail
      go_meet
      case rel => exact ⟨X.heap.size, st, rfl, hstn, T⟩
  case rest =>
    obtain ⟨mx, st, rfl, hstn, T⟩ := hcut
    clear HRX HKX HRG HWX HXX HGX HVC lrg lwX lxX
    have b1 := (cell_in T.wkb 1).trans (rfl : _ = some (Value.int .i64 0))
    have b2 := (cell_in T.wkb 2).trans (rfl : _ = some (Value.int .i64 2))
    have s3 := (cell_in T.road.site 3).trans (rfl : _ = some (Value.slice (some ⟨n + 9, 0, none⟩) 3 3))
    have n4 := (cell_in T.road.names 4).trans (rfl : _ = some (Value.string ⟨#[99]⟩))
    have n5 := (cell_in T.road.names 5).trans (rfl : _ = some (Value.string ⟨#[83, 51]⟩))
    have l5 := lt_in T.road.site
    have l9 := lt_in T.road.names
    have lwb := lt_in T.wkb
    have HT := hide T
    clear T
    go_wp2
    go_region
    go_wp2
    have T2 := (HT.out.alloc (.cells #[.string ⟨#[99]⟩, .string ⟨#[83, 51]⟩] 65)).drew
    have hv2 : ((wc.alloc (.cells #[.string ⟨#[99]⟩, .string ⟨#[83, 51]⟩] 65)).drew).heap[wc.heap.size]? = some (.cells #[.string ⟨#[99]⟩, .string ⟨#[83, 51]⟩] 65) := heap_alloc_at _ _ rfl
    clear HT b1 b2 s3 n4 n5 l5 l9 lwb
    revert T2 hv2
    generalize (wc.alloc (.cells #[.string ⟨#[99]⟩, .string ⟨#[83, 51]⟩] 65)).drew = U
    generalize wc.heap.size = sb
    intro T2 hv2
    have key := hide (confirmation_any T2.road.drew ⟨#[97]⟩ ⟨#[99]⟩ ⟨#[83, 51]⟩ vp vs sent vc)
    have HTd := hide T2.drew
    have HVd : Hid (U.drew.heap[sb]? = some (.cells #[.string ⟨#[99]⟩, .string ⟨#[83, 51]⟩] 65)) := hv2
    clear T2 hv2
    have up6 : ∀ w6, Below U.drew.heap.size U.drew w6 → w6.heap[sb]? = some (.cells #[.string ⟨#[99]⟩, .string ⟨#[83, 51]⟩] 65) := fun w6 hB6 => (hB6.block sb (lt_in HVd.out)).trans HVd.out
    have HU6 := hide up6
    clear up6
    go_region_held3 (fun w' => w'.cell? ⟨n + 5, 3, none⟩ = some (.slice (some ⟨n + 9, 0, none⟩) 3 3) ∧ w'.cell? ⟨n + 9, 0, none⟩ = some (.string ⟨#[97]⟩) ∧ w'.cell? ⟨w1.heap.size, 1, none⟩ = some (.int .i64 0) ∧ w'.cell? ⟨w1.heap.size, 3, none⟩ = some (.int .u64 sent) ∧
        w'.cell? ⟨mx, 0, none⟩ = some (.string vp) ∧ w'.cell? ⟨mx, 1, none⟩ = some (.string vs) ∧ w'.cell? ⟨mx, 2, none⟩ = some (.int .u64 vc) ∧ w'.cell? ⟨sb, 0, none⟩ = some (.string ⟨#[99]⟩) ∧ w'.cell? ⟨sb, 1, none⟩ = some (.string ⟨#[83, 51]⟩))
      (first | with_reducible exact sLast HTd.out HVd.out | with_reducible exact sLast (HTd.out.below hB6) (HU6.out w6 hB6) | with_reducible exact sLast ((HTd.out.below hB6).alloc _) ((heap_alloc_past _ _ (lt_in (HU6.out w6 hB6))).trans (HU6.out w6 hB6)))
      (first | (go_at_call 17; with_reducible refine key.out.mono ?_; rintro e w6 ⟨rfl, hB6⟩; unfold cMsg))
    go_wp2
    go_ret
    have T7 := (HTd.out.below hB6).alloc (.cells (cMsg ⟨#[120]⟩ home num ⟨#[97]⟩ ⟨#[99]⟩ ⟨#[83, 51]⟩ vp vs vc sent floor) 31)
    exact ⟨_, _, w6.heap.size, rg, rc, st, Z, rfl, T7.road, T7.rgb, T7.stb, heap_alloc_at _ _ rfl, hrn, hstn, (HTd.out.below hB6).road.size, T7.keep⟩

end
end Go.Proofs.Ybulkbviq
