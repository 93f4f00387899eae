/-
  The main road: receiveConfirmation, the confirmation that goes on.
-/
import Derived.Test.YbulkbviqRoadJ
import Derived.WalkKit
import Derived.WalkSpells
import Derived.WalkLawsBesides
import Derived.Handy
import Derived.Deep.RegionHeld3
import Derived.Deep.DrawnRows
import Derived.BigRegion
import Derived.BigQuiet
namespace Go.Proofs.Ybulkbviq
open Go.RowKit Go.ChangeMaps
attribute [local go_sem ↓] Go.wp_at_zero Go.wp_at_succ

theorem sNames {n : Nat} {W : World} {ini home : ByteArray} {num back : Int} {rw pend prev ring : Value} {unr made : Int} {dcl : Bool} (hq : W.heap[n + 12]? = some (.cells (srchA n ini home num back rw dcl) 42)) (hs : W.heap[n + 5]? = some (.cells (siteA n pend prev unr ring made) 63)) (hn : W.heap[n + 9]? = some (.cells namesA 65)) :
    W.cell? ⟨n + 12, 11, none⟩ = some rw ∧ W.cell? ⟨n + 5, 3, none⟩ = some (.slice (some ⟨n + 9, 0, none⟩) 3 3) ∧ W.cell? ⟨n + 9, 0, none⟩ = some (.string ⟨#[97]⟩) ∧ W.cell? ⟨n + 9, 2, none⟩ = some (.string ⟨#[98]⟩) ∧ W.cell? ⟨n + 9, 3, none⟩ = some (.string ⟨#[83, 50]⟩) :=
  ⟨(cell_in hq 11).trans rfl, (cell_in hs 3).trans rfl, (cell_in hn 0).trans rfl, (cell_in hn 2).trans rfl, (cell_in hn 3).trans rfl⟩


/-- What the region of the victim reads of the confirmation. -/
theorem sC {W : World} {b : Nat} {snd mn ms : ByteArray} {mc cw : Int} (hv : W.heap[b]? = some (.cells (inC snd mn ms mc cw) 31)) :
    W.cell? ⟨b, 8, none⟩ = some (.string mn) ∧ W.cell? ⟨b, 9, none⟩ = some (.string ms) ∧ W.cell? ⟨b, 10, none⟩ = some (.int .u64 mc) :=
  ⟨(cell_in hv 8).trans rfl, (cell_in hv 9).trans rfl, (cell_in hv 10).trans rfl⟩

/-- firstOf, with a block that is carried through; and with another that waits for the answer. -/
theorem firstOf_one {V : World} {n : Nat} {links srch walk : Array Value} {waitedAt floor cost : Int} {pend prev ring settled : Value} {unr made : Int} (h : Road V n (siteA n pend prev unr ring made) (procsA n cost settled) links srch walk waitedAt floor) {mn ms vp vs : ByteArray} {mc vc : Int} (hv : Vic cost mc mn ms vp vs vc) {b : Nat} {o : Obj} (hb : V.heap[b]? = some o) :
    Calls Yba.prog 15 #[.pointer (some ⟨n + 5, 0, none⟩), .agg #[.string mn, .string ms, .int .u64 mc], .int .i64 0] V fun e w' => e = .returned (.agg #[.string vp, .string vs, .int .u64 vc]) ∧ Below V.heap.size V w' ∧ w'.heap[b]? = some o :=
  (firstOf_is h hv).mono fun _ _ ⟨e1, e2⟩ => ⟨e1, e2, (e2.block b (lt_in hb)).trans hb⟩
theorem firstOf_two {V : World} {n : Nat} {links srch walk : Array Value} {waitedAt floor cost : Int} {pend prev ring settled : Value} {unr made : Int} (h : Road V n (siteA n pend prev unr ring made) (procsA n cost settled) links srch walk waitedAt floor) {mn ms vp vs : ByteArray} {mc vc : Int} (hv : Vic cost mc mn ms vp vs vc) {b : Nat} {o : Obj} (hb : V.heap[b]? = some o)
    {m : Nat} (hm : V.heap[m]? = some (.cells #[.string ⟨#[]⟩, .string ⟨#[]⟩, .int .u64 0] 91)) :
    Calls Yba.prog 15 #[.pointer (some ⟨n + 5, 0, none⟩), .agg #[.string mn, .string ms, .int .u64 mc], .int .i64 0] V fun e w' => e = .returned (.agg #[.string vp, .string vs, .int .u64 vc]) ∧ Below V.heap.size V w' ∧ w'.heap[b]? = some o ∧
      Hid (w'.heap[m]? = some (.cells #[.string ⟨#[]⟩, .string ⟨#[]⟩, .int .u64 0] 91)) ∧ w'.cell? ⟨m, 0, none⟩ = some (.string ⟨#[]⟩) ∧ w'.cell? ⟨m, 1, none⟩ = some (.string ⟨#[]⟩) ∧ w'.cell? ⟨m, 2, none⟩ = some (.int .u64 0) ∧ (∀ i, w'.frozen? ⟨m, i, none⟩ = false) ∧ m < w'.heap.size :=
  (firstOf_is h hv).mono fun _ _ ⟨e1, e2⟩ =>
    have hm' := (e2.block m (lt_in hm)).trans hm
    ⟨e1, e2, (e2.block b (lt_in hb)).trans hb, hm', (cell_in hm' 0).trans rfl, (cell_in hm' 1).trans rfl, (cell_in hm' 2).trans rfl, free_in hm', lt_in hm'⟩

theorem settle_one {V : World} {n : Nat} {walk : Array Value} {waitedAt floor cost : Int} {pend ring settled rw : Value} {made : Int} (g c : Nat) (num back : Int) (home : ByteArray) (dcl : Bool) (h : Road V n (siteA n pend (.slice (some ⟨g, 0, none⟩) 3 c) 0 ring made) (procsA n cost settled) (linksA false false) (srchA n ⟨#[120]⟩ home num back rw dcl) walk waitedAt floor)
    (hg : V.cell? ⟨g, 0, none⟩ = some (.int .i64 (-1))) (hgn : n + 15 ≤ g) {b : Nat} {o : Obj} (hb : V.heap[b]? = some o) (hbn : n + 15 ≤ b) :
    Calls Yba.prog 16 #[.pointer (some ⟨n + 5, 0, none⟩), .pointer (some ⟨n + 12, 0, none⟩), .int .i64 0] V fun e w' => ∃ st, e = .returned (.int .i64 0) ∧
      Road w' n (siteA n pend (.slice (some ⟨g, 0, none⟩) 3 c) 1 ring made) (procsA n cost (.pointer (some ⟨st, 0, none⟩))) (linksA false true) (srchA n ⟨#[120]⟩ home num back rw dcl) walk waitedAt floor ∧
      w'.heap[st]? = some (.cells #[.int .u64 num, .string ⟨#[120]⟩, .string home, .string ⟨#[]⟩, .string ⟨#[]⟩, .bool false] 73) ∧ n + 15 ≤ st ∧ Keep n V w' ∧ w'.heap[b]? = some o :=
  (settleWay_x g c num back home dcl h hg hgn).mono fun _ _ ⟨st, e1, e2, e3, e4, e5⟩ => ⟨st, e1, e2, e3, e4, e5, (e5.block b (lt_in hb) (Or.inr hbn)).trans hb⟩
theorem settle_two {V : World} {n : Nat} {walk : Array Value} {waitedAt floor cost : Int} {pend ring settled rw : Value} {made : Int} (g c : Nat) (num back : Int) (home : ByteArray) (dcl : Bool) (h : Road V n (siteA n pend (.slice (some ⟨g, 0, none⟩) 3 c) 0 ring made) (procsA n cost settled) (linksA false false) (srchA n ⟨#[120]⟩ home num back rw dcl) walk waitedAt floor)
    (hg : V.cell? ⟨g, 0, none⟩ = some (.int .i64 (-1))) (hgn : n + 15 ≤ g) {b : Nat} {o : Obj} (hb : V.heap[b]? = some o) (hbn : n + 15 ≤ b) {m : Nat} {o' : Obj} (hm : V.heap[m]? = some o') (hmn : n + 15 ≤ m) :
    Calls Yba.prog 16 #[.pointer (some ⟨n + 5, 0, none⟩), .pointer (some ⟨n + 12, 0, none⟩), .int .i64 0] V fun e w' => ∃ st, e = .returned (.int .i64 0) ∧
      Road w' n (siteA n pend (.slice (some ⟨g, 0, none⟩) 3 c) 1 ring made) (procsA n cost (.pointer (some ⟨st, 0, none⟩))) (linksA false true) (srchA n ⟨#[120]⟩ home num back rw dcl) walk waitedAt floor ∧
      w'.heap[st]? = some (.cells #[.int .u64 num, .string ⟨#[120]⟩, .string home, .string ⟨#[]⟩, .string ⟨#[]⟩, .bool false] 73) ∧ n + 15 ≤ st ∧ Keep n V w' ∧ w'.heap[b]? = some o ∧ w'.heap[m]? = some o' :=
  (settleWay_x g c num back home dcl h hg hgn).mono fun _ _ ⟨st, e1, e2, e3, e4, e5⟩ => ⟨st, e1, e2, e3, e4, e5, (e5.block b (lt_in hb) (Or.inr hbn)).trans hb, (e5.block m (lt_in hm) (Or.inr hmn)).trans hm⟩

/-- A store into a block that was not there when it began. -/
theorem Keep.fresh {n : Nat} {a w : World} (h : Keep n a w) {p : Addr} (hp : a.heap.size ≤ p.block) (v : Value) : Keep n a (w.setCell p v) :=
  ⟨h.os, h.tape, h.output, by simpa [World.setCell] using h.size, fun k hk hn => (Below.heap_setCell _ _ _ _ (by omega)).trans (h.block k hk hn)⟩

/-- What is known behind the choice of the victim, whatever order the region took. -/
structure Tail (n : Nat) (w Y : World) (site procs links srch walk : Array Value) (waitedAt floor : Int) (mx : Nat) (v0 v1 v2 : Value) (wb : Nat) (wo : Obj) (st : Nat) (so : Obj) (rg : Nat) (ro : Obj) : Prop where
  road : Road Y n site procs links srch walk waitedAt floor
  keep : Keep n w Y
  mxb : Y.heap[mx]? = some (.cells #[v0, v1, v2] 91)
  wkb : Y.heap[wb]? = some wo
  stb : Y.heap[st]? = some so
  rgb : Y.heap[rg]? = some ro
  mxn : n + 15 ≤ mx

section
variable {n : Nat} {w w4 w5 : World} {site procs links srch walk : Array Value} {waitedAt floor : Int} {v0 v1 v2 : Value} {wb st rg : Nat} {wo so ro : Obj}

theorem tail_new (hR4 : Road w4 n site procs links srch walk waitedAt floor) (hK4 : Keep n w w4) (hB5 : Below w4.heap.size w4 w5) (hw : w4.heap[wb]? = some wo) (hs : w4.heap[st]? = some so) (hr : w4.heap[rg]? = some ro) :
    Tail n w (w5.alloc (.cells #[v0, v1, v2] 91)) site procs links srch walk waitedAt floor w5.heap.size v0 v1 v2 wb wo st so rg ro := by
  have up : ∀ b o, w4.heap[b]? = some o → (w5.alloc (.cells #[v0, v1, v2] 91)).heap[b]? = some o := fun b o hb => by
    have h5 := (hB5.block b (lt_in hb)).trans hb
    rw [heap_alloc_past _ _ (lt_in h5)]; exact h5
  exact ⟨(hR4.below hB5 hR4.size).alloc _, (hK4.below hB5).alloc _, heap_alloc_at _ _ rfl, up _ _ hw, up _ _ hs, up _ _ hr, Nat.le_trans hR4.size hB5.size⟩

theorem set3 {W : World} {m : Nat} {a b c : Value} (h : W.heap[m]? = some (.cells #[a, b, c] 91)) (v0 v1 v2 : Value) :
    (((W.setCell ⟨m, 0, none⟩ v0).setCell ⟨m, 1, none⟩ v1).setCell ⟨m, 2, none⟩ v2).heap[m]? = some (.cells #[v0, v1, v2] 91) :=
  heap_setCell_at v2 (heap_setCell_at v1 (heap_setCell_at v0 h))

theorem far3 {W : World} {m b : Nat} (h : b ≠ m) (v0 v1 v2 : Value) : (((W.setCell ⟨m, 0, none⟩ v0).setCell ⟨m, 1, none⟩ v1).setCell ⟨m, 2, none⟩ v2).heap[b]? = W.heap[b]? := by
  rw [Below.heap_setCell _ _ _ _ h, Below.heap_setCell _ _ _ _ h, Below.heap_setCell _ _ _ _ h]

/-- The variable was laid between the two calls. -/
theorem tail_mid {o0 : Obj} {a b c : Value} (hR4 : Road w4 n site procs links srch walk waitedAt floor) (hK4 : Keep n w w4) (hB5 : Below (w4.alloc o0).heap.size (w4.alloc o0) w5) (hm : w5.heap[w4.heap.size]? = some (.cells #[a, b, c] 91)) (hw : w4.heap[wb]? = some wo) (hs : w4.heap[st]? = some so) (hr : w4.heap[rg]? = some ro) :
    Tail n w (((w5.setCell ⟨w4.heap.size, 0, none⟩ v0).setCell ⟨w4.heap.size, 1, none⟩ v1).setCell ⟨w4.heap.size, 2, none⟩ v2) site procs links srch walk waitedAt floor w4.heap.size v0 v1 v2 wb wo st so rg ro := by
  have up : ∀ b o, w4.heap[b]? = some o → (((w5.setCell ⟨w4.heap.size, 0, none⟩ v0).setCell ⟨w4.heap.size, 1, none⟩ v1).setCell ⟨w4.heap.size, 2, none⟩ v2).heap[b]? = some o := fun b o hb => by
    have hl := lt_in hb
    rw [far3 (by omega), hB5.block b (by simp; omega), heap_alloc_past _ _ hl]; exact hb
  have hks := hK4.size
  have hk5 := (hK4.alloc o0).below hB5
  exact ⟨((((hR4.alloc o0).below hB5 (hR4.alloc o0).size).far (p := ⟨w4.heap.size, 0, none⟩) hR4.size _).far (p := ⟨w4.heap.size, 1, none⟩) hR4.size _).far (p := ⟨w4.heap.size, 2, none⟩) hR4.size _,
    ((hk5.fresh (p := ⟨w4.heap.size, 0, none⟩) hks _).fresh (p := ⟨w4.heap.size, 1, none⟩) hks _).fresh (p := ⟨w4.heap.size, 2, none⟩) hks _, set3 hm _ _ _, up _ _ hw, up _ _ hs, up _ _ hr, hR4.size⟩

/-- The variable was laid ahead of both calls, in block m. -/
theorem tail_old {m : Nat} {a b c : Value} (hR4 : Road w4 n site procs links srch walk waitedAt floor) (hK4 : Keep n w w4) (hB5 : Below w4.heap.size w4 w5) (hm : w5.heap[m]? = some (.cells #[a, b, c] 91)) (hw : w4.heap[wb]? = some wo) (hs : w4.heap[st]? = some so) (hr : w4.heap[rg]? = some ro)
    (hmn : n + 15 ≤ m) (hmw : w.heap.size ≤ m) (nw : wb ≠ m) (ns : st ≠ m) (nr : rg ≠ m) :
    Tail n w (((w5.setCell ⟨m, 0, none⟩ v0).setCell ⟨m, 1, none⟩ v1).setCell ⟨m, 2, none⟩ v2) site procs links srch walk waitedAt floor m v0 v1 v2 wb wo st so rg ro := by
  have up : ∀ b o, b ≠ m → w4.heap[b]? = some o → (((w5.setCell ⟨m, 0, none⟩ v0).setCell ⟨m, 1, none⟩ v1).setCell ⟨m, 2, none⟩ v2).heap[b]? = some o := fun b o hn hb => by
    rw [far3 hn, hB5.block b (lt_in hb)]; exact hb
  have hk5 := hK4.below hB5
  exact ⟨(((hR4.below hB5 hR4.size).far (p := ⟨m, 0, none⟩) hmn _).far (p := ⟨m, 1, none⟩) hmn _).far (p := ⟨m, 2, none⟩) hmn _,
    ((hk5.fresh (p := ⟨m, 0, none⟩) hmw _).fresh (p := ⟨m, 1, none⟩) hmw _).fresh (p := ⟨m, 2, none⟩) hmw _, set3 hm _ _ _, up _ _ nw hw, up _ _ ns hs, up _ _ nr hr, hmn⟩
end

end Go.Proofs.Ybulkbviq
