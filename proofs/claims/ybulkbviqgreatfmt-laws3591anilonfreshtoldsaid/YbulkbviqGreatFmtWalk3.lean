/-
  LawS3591ANilOnFresh: the walk.
-/
import Derived.Test.YbulkbviqGreatFmtRecv3
import Derived.Lib.AppendIntMem
import Derived.WalkKit
import Derived.WalkSpells
import Derived.WalkLawsBesides
import Derived.RegionTactic
import Derived.BigRegion
import Derived.WalkSmall
import Derived.Handy
set_option linter.unusedVariables false
namespace Go.Proofs.YbulkbviqGreatFmt
open Go.RowKit Go.ChangeMaps Go.Extern.Stop Go.Stop Go.Extern

/-- A fact that the walk's rules do not take for one of theirs. -/
structure Hid (p : Prop) : Prop where
  out : p
theorem hide {p : Prop} (h : p) : Hid p := ⟨h⟩

def kinds11 : Array Value := #[.int .i64 0, .int .i64 1, .int .i64 2, .int .i64 4, .int .i64 7, .int .i64 8, .int .i64 10, .int .i64 3, .int .i64 5, .int .i64 6, .int .i64 9]

set_option maxRecDepth 100000 in
theorem kinds5 (w : World) : Calls Ybaz.prog 5 #[] w fun e w' => e = .returned (.agg kinds11) ∧ w' = w.alloc (.cells kinds11 26) := by
  unfold kinds11
  go_enter Ybaz.func5, Ybaz.ntmps5
  go_wp2
  exact bodyPost_ret (v := .agg #[.int .i64 0, .int .i64 1, .int .i64 2, .int .i64 4, .int .i64 7, .int .i64 8, .int .i64 10, .int .i64 3, .int .i64 5, .int .i64 6, .int .i64 9]) (by simp [results, Ybaz.results5, go_sem]) rfl ⟨rfl, rfl⟩

variable {F : Interp} {w : World} {a : Addr} {t : ByteArray}

set_option maxRecDepth 100000 in
set_option maxHeartbeats 2000000 in
theorem law3_z_o (sel kind search hops maxCost walk floor : Int) (ini snd frm rcv site mx mxs iniSite : ByteArray) (n0 : Int) (hF : F.answers w.tape) (he : w.cell? ⟨0, 0, none⟩ = some (.iface 131 (.pointer (some a)))) (h0 : 0 < w.heap.size) (ht : w.cell? a = some (.string t)) (ha : a.block < w.heap.size) (htab : Lib.TabIs Ybaz.prog w nT .u64 Lib.pow10Tab) (kd : Int) (hidx : ∀ W, (Instr.index 26 (.agg #[.int .i64 0, .int .i64 1, .int .i64 2, .int .i64 4, .int .i64 7, .int .i64 8, .int .i64 10, .int .i64 3, .int .i64 5, .int .i64 6, .int .i64 9]) (.int .i64 ((wrap64 n0).tmod 11))).run Ybaz.prog W = .ok (.int .i64 kd) W) (hz : Int.tmod sel 4 = 0) (k5 : (kd == 5) = false) (k6 : (kd == 6) = false) (recv : ∀ (w1 : World) (sb i q f : Nat), Base F w1 sb i q f ⟨#[115, 49]⟩ a t → Lib.TabIs Ybaz.prog w1 nT .u64 Lib.pow10Tab → Calls Ybaz.prog 7 #[.pointer (some ⟨sb, 0, none⟩), .agg (msgV kd ini search snd frm rcv site hops mx mxs maxCost walk iniSite floor)] w1 fun e w' => e = .returned (.slice none 0 0) ∧ Below w1.heap.size w1 w') :
    Calls Ybaz.prog 3 #[.int .u8 n0, .int .u8 sel, .agg (msgV kind ini search snd frm rcv site hops mx mxs maxCost walk iniSite floor)] w fun e w' => e = .returned (.bool true) ∧ Below w.heap.size w w' := by
  have k6' := hide (newSite_any ⟨#[115, 49]⟩ (((w.alloc (.cells (msgV kind ini search snd frm rcv site hops mx mxs maxCost walk iniSite floor) 25)).alloc (.cells (msgV kd ini search snd frm rcv site hops mx mxs maxCost walk iniSite floor) 25)).alloc (.cells #[.int .i64 0, .int .i64 1, .int .i64 2, .int .i64 4, .int .i64 7, .int .i64 8, .int .i64 10, .int .i64 3, .int .i64 5, .int .i64 6, .int .i64 9] 26)))
  have hA : Below w.heap.size w (((w.alloc (.cells (msgV kind ini search snd frm rcv site hops mx mxs maxCost walk iniSite floor) 25)).alloc (.cells (msgV kd ini search snd frm rcv site hops mx mxs maxCost walk iniSite floor) 25)).alloc (.cells #[.int .i64 0, .int .i64 1, .int .i64 2, .int .i64 4, .int .i64 7, .int .i64 8, .int .i64 10, .int .i64 3, .int .i64 5, .int .i64 6, .int .i64 9] 26)) := (((Below.refl _ w).alloc (Nat.le_refl _) _).alloc (by simp) _).alloc (by simp; omega) _
  have HA := hide hA
  have HT := hide htab
  have HR := hide recv
  clear hA htab recv
  unfold msgV at k6' ⊢
  go_enter Ybaz.func3, Ybaz.ntmps3
  go_wp2_with fail
  refine (kinds5 _).mono ?_
  rintro e w1 ⟨rfl, rfl⟩
  unfold kinds11
  go_wp2_with fail
  refine k6'.out.mono ?_
  rintro e w1 ⟨rfl, hm⟩
  have hB1 : Below w.heap.size w w1 := HA.out.trans (hm.below.mono HA.out.size)
  have hx : w1.heap[w.heap.size + 1]? = some (.cells (msgV kd ini search snd frm rcv site hops mx mxs maxCost walk iniSite floor) 25) := (hm.below.block _ (by simp)).trans ((heap_alloc_past _ _ (by simp)).trans (heap_alloc_at _ _ (by simp)))
  have hf := Fresh.of_made hm
  simp only [World.size_alloc] at hf
  have B1 : Base F w1 _ _ _ _ ⟨#[115, 49]⟩ a t := ⟨hf, by rw [hB1.tape]; exact hF, (hB1.cell (p := ⟨0, 0, none⟩) h0).trans he, Nat.lt_of_lt_of_le h0 hB1.size, (hB1.cell ha).trans ht, Nat.lt_of_lt_of_le ha hB1.size⟩
  have kR := hide (HR.out w1 _ _ _ _ B1 (Lib.tabBelow_of_tabIs HT.out w1 hB1))
  have HX := hide hx
  have m0 := cell_in hx 0
  have m1 := cell_in hx 1
  have m2 := cell_in hx 2
  have m3 := cell_in hx 3
  have m4 := cell_in hx 4
  have m5 := cell_in hx 5
  have m6 := cell_in hx 6
  have m7 := cell_in hx 7
  have m8 := cell_in hx 8
  have m9 := cell_in hx 9
  have m10 := cell_in hx 10
  have m11 := cell_in hx 11
  have m12 := cell_in hx 12
  have m13 := cell_in hx 13
  simp [msgV] at m0 m1 m2 m3 m4 m5 m6 m7 m8 m9 m10 m11 m12 m13
  have HB1 := hide hB1
  clear hm hf B1 hx hB1 HA HT HR k6' he ht ha hF hidx
  unfold msgV at kR
  go_wp2_with fail
  refine kR.out.mono ?_
  rintro e w2 ⟨rfl, hB2⟩
  have hx2 : w2.heap[w.heap.size + 1]? = some (.cells (msgV kd ini search snd frm rcv site hops mx mxs maxCost walk iniSite floor) 25) := (hB2.block _ (lt_in HX.out)).trans HX.out
  clear m0 m1 m2 m3 m4 m5 m6 m7 m8 m9 m10 m11 m12 m13 kR
  have m0 := cell_in hx2 0
  have m1 := cell_in hx2 1
  have m2 := cell_in hx2 2
  have m3 := cell_in hx2 3
  have m4 := cell_in hx2 4
  have m5 := cell_in hx2 5
  have m6 := cell_in hx2 6
  have m7 := cell_in hx2 7
  have m8 := cell_in hx2 8
  have m9 := cell_in hx2 9
  have m10 := cell_in hx2 10
  have m11 := cell_in hx2 11
  have m12 := cell_in hx2 12
  have m13 := cell_in hx2 13
  simp [msgV] at m0 m1 m2 m3 m4 m5 m6 m7 m8 m9 m10 m11 m12 m13
  have HB2 := hide hB2
  clear hx2 hB2
  go_wp2
  go_ret
  exact ⟨rfl, HB1.out.trans (HB2.out.mono HB1.out.size)⟩

set_option maxRecDepth 100000 in
set_option maxHeartbeats 2000000 in
theorem law3_z_5r (sel kind search hops maxCost walk floor : Int) (ini snd frm rcv site mx mxs iniSite : ByteArray) (n0 : Int) (hF : F.answers w.tape) (he : w.cell? ⟨0, 0, none⟩ = some (.iface 131 (.pointer (some a)))) (h0 : 0 < w.heap.size) (ht : w.cell? a = some (.string t)) (ha : a.block < w.heap.size) (htab : Lib.TabIs Ybaz.prog w nT .u64 Lib.pow10Tab) (hidx : ∀ W, (Instr.index 26 (.agg #[.int .i64 0, .int .i64 1, .int .i64 2, .int .i64 4, .int .i64 7, .int .i64 8, .int .i64 10, .int .i64 3, .int .i64 5, .int .i64 6, .int .i64 9]) (.int .i64 ((wrap64 n0).tmod 11))).run Ybaz.prog W = .ok (.int .i64 5) W) (hz : Int.tmod sel 4 = 0) (recv : ∀ (w1 : World) (sb i q f : Nat), Base F w1 sb i q f ⟨#[115, 49]⟩ a t → Lib.TabIs Ybaz.prog w1 nT .u64 Lib.pow10Tab → Calls Ybaz.prog 7 #[.pointer (some ⟨sb, 0, none⟩), .agg (msgV 5 ini search snd frm rcv site hops mx mxs maxCost walk iniSite floor)] w1 fun e w' => e = .returned (.slice none 0 0) ∧ Below w1.heap.size w1 w') (ref : ∀ w1, Calls Ybaz.prog 8 #[.string ⟨#[115, 49]⟩, .agg (msgV 5 ini search snd frm rcv site hops mx mxs maxCost walk iniSite floor)] w1 fun e w' => e = .returned (.bool true) ∧ w' = w1.alloc (.cells (msgV 5 ini search snd frm rcv site hops mx mxs maxCost walk iniSite floor) 25)) :
    Calls Ybaz.prog 3 #[.int .u8 n0, .int .u8 sel, .agg (msgV kind ini search snd frm rcv site hops mx mxs maxCost walk iniSite floor)] w fun e w' => e = .returned (.bool true) ∧ Below w.heap.size w w' := by
  have k6' := hide (newSite_any ⟨#[115, 49]⟩ (((w.alloc (.cells (msgV kind ini search snd frm rcv site hops mx mxs maxCost walk iniSite floor) 25)).alloc (.cells (msgV 5 ini search snd frm rcv site hops mx mxs maxCost walk iniSite floor) 25)).alloc (.cells #[.int .i64 0, .int .i64 1, .int .i64 2, .int .i64 4, .int .i64 7, .int .i64 8, .int .i64 10, .int .i64 3, .int .i64 5, .int .i64 6, .int .i64 9] 26)))
  have hA : Below w.heap.size w (((w.alloc (.cells (msgV kind ini search snd frm rcv site hops mx mxs maxCost walk iniSite floor) 25)).alloc (.cells (msgV 5 ini search snd frm rcv site hops mx mxs maxCost walk iniSite floor) 25)).alloc (.cells #[.int .i64 0, .int .i64 1, .int .i64 2, .int .i64 4, .int .i64 7, .int .i64 8, .int .i64 10, .int .i64 3, .int .i64 5, .int .i64 6, .int .i64 9] 26)) := (((Below.refl _ w).alloc (Nat.le_refl _) _).alloc (by simp) _).alloc (by simp; omega) _
  have HA := hide hA
  have HT := hide htab
  have HR := hide recv
  have HF := hide ref
  clear ref
  clear hA htab recv
  unfold msgV at k6' ⊢
  go_enter Ybaz.func3, Ybaz.ntmps3
  go_wp2_with fail
  refine (kinds5 _).mono ?_
  rintro e w1 ⟨rfl, rfl⟩
  unfold kinds11
  go_wp2_with fail
  refine k6'.out.mono ?_
  rintro e w1 ⟨rfl, hm⟩
  have hB1 : Below w.heap.size w w1 := HA.out.trans (hm.below.mono HA.out.size)
  have hx : w1.heap[w.heap.size + 1]? = some (.cells (msgV 5 ini search snd frm rcv site hops mx mxs maxCost walk iniSite floor) 25) := (hm.below.block _ (by simp)).trans ((heap_alloc_past _ _ (by simp)).trans (heap_alloc_at _ _ (by simp)))
  have hf := Fresh.of_made hm
  simp only [World.size_alloc] at hf
  have B1 : Base F w1 _ _ _ _ ⟨#[115, 49]⟩ a t := ⟨hf, by rw [hB1.tape]; exact hF, (hB1.cell (p := ⟨0, 0, none⟩) h0).trans he, Nat.lt_of_lt_of_le h0 hB1.size, (hB1.cell ha).trans ht, Nat.lt_of_lt_of_le ha hB1.size⟩
  have kR := hide (HR.out w1 _ _ _ _ B1 (Lib.tabBelow_of_tabIs HT.out w1 hB1))
  have HX := hide hx
  have m0 := cell_in hx 0
  have m1 := cell_in hx 1
  have m2 := cell_in hx 2
  have m3 := cell_in hx 3
  have m4 := cell_in hx 4
  have m5 := cell_in hx 5
  have m6 := cell_in hx 6
  have m7 := cell_in hx 7
  have m8 := cell_in hx 8
  have m9 := cell_in hx 9
  have m10 := cell_in hx 10
  have m11 := cell_in hx 11
  have m12 := cell_in hx 12
  have m13 := cell_in hx 13
  simp [msgV] at m0 m1 m2 m3 m4 m5 m6 m7 m8 m9 m10 m11 m12 m13
  have HB1 := hide hB1
  clear hm hf B1 hx hB1 HA HT HR k6' he ht ha hF hidx
  unfold msgV at kR
  go_wp2_with fail
  refine kR.out.mono ?_
  rintro e w2 ⟨rfl, hB2⟩
  have hx2 : w2.heap[w.heap.size + 1]? = some (.cells (msgV 5 ini search snd frm rcv site hops mx mxs maxCost walk iniSite floor) 25) := (hB2.block _ (lt_in HX.out)).trans HX.out
  clear m0 m1 m2 m3 m4 m5 m6 m7 m8 m9 m10 m11 m12 m13 kR
  have m0 := cell_in hx2 0
  have m1 := cell_in hx2 1
  have m2 := cell_in hx2 2
  have m3 := cell_in hx2 3
  have m4 := cell_in hx2 4
  have m5 := cell_in hx2 5
  have m6 := cell_in hx2 6
  have m7 := cell_in hx2 7
  have m8 := cell_in hx2 8
  have m9 := cell_in hx2 9
  have m10 := cell_in hx2 10
  have m11 := cell_in hx2 11
  have m12 := cell_in hx2 12
  have m13 := cell_in hx2 13
  simp [msgV] at m0 m1 m2 m3 m4 m5 m6 m7 m8 m9 m10 m11 m12 m13
  have k8 := hide (HF.out w2)
  unfold msgV at k8
  have HB2 := hide hB2
  clear hx2 hB2
  go_wp2_with fail
  refine k8.out.mono ?_
  rintro e w3 ⟨rfl, rfl⟩
  go_wp2
  go_ret
  have hE := HB1.out.trans (HB2.out.mono HB1.out.size)
  exact ⟨rfl, hE.alloc hE.size _⟩

set_option maxRecDepth 100000 in
set_option maxHeartbeats 2000000 in
theorem law3_z_5t (sel kind search hops maxCost walk floor : Int) (ini snd frm rcv site mx mxs iniSite : ByteArray) (n0 : Int) (hF : F.answers w.tape) (he : w.cell? ⟨0, 0, none⟩ = some (.iface 131 (.pointer (some a)))) (h0 : 0 < w.heap.size) (ht : w.cell? a = some (.string t)) (ha : a.block < w.heap.size) (htab : Lib.TabIs Ybaz.prog w nT .u64 Lib.pow10Tab) (hidx : ∀ W, (Instr.index 26 (.agg #[.int .i64 0, .int .i64 1, .int .i64 2, .int .i64 4, .int .i64 7, .int .i64 8, .int .i64 10, .int .i64 3, .int .i64 5, .int .i64 6, .int .i64 9]) (.int .i64 ((wrap64 n0).tmod 11))).run Ybaz.prog W = .ok (.int .i64 5) W) (hz : Int.tmod sel 4 = 0) (recv : ∀ (w1 : World) (sb i q f : Nat), Base F w1 sb i q f ⟨#[115, 49]⟩ a t → Lib.TabIs Ybaz.prog w1 nT .u64 Lib.pow10Tab → Calls Ybaz.prog 7 #[.pointer (some ⟨sb, 0, none⟩), .agg (msgV 5 ini search snd frm rcv site hops mx mxs maxCost walk iniSite floor)] w1 fun e w' => ∃ v, e = .returned v ∧ Below w1.heap.size w1 w') (ref : ∀ w1, Calls Ybaz.prog 8 #[.string ⟨#[115, 49]⟩, .agg (msgV 5 ini search snd frm rcv site hops mx mxs maxCost walk iniSite floor)] w1 fun e w' => e = .returned (.bool false) ∧ w' = w1.alloc (.cells (msgV 5 ini search snd frm rcv site hops mx mxs maxCost walk iniSite floor) 25)) :
    Calls Ybaz.prog 3 #[.int .u8 n0, .int .u8 sel, .agg (msgV kind ini search snd frm rcv site hops mx mxs maxCost walk iniSite floor)] w fun e w' => e = .returned (.bool true) ∧ Below w.heap.size w w' := by
  have k6' := hide (newSite_any ⟨#[115, 49]⟩ (((w.alloc (.cells (msgV kind ini search snd frm rcv site hops mx mxs maxCost walk iniSite floor) 25)).alloc (.cells (msgV 5 ini search snd frm rcv site hops mx mxs maxCost walk iniSite floor) 25)).alloc (.cells #[.int .i64 0, .int .i64 1, .int .i64 2, .int .i64 4, .int .i64 7, .int .i64 8, .int .i64 10, .int .i64 3, .int .i64 5, .int .i64 6, .int .i64 9] 26)))
  have hA : Below w.heap.size w (((w.alloc (.cells (msgV kind ini search snd frm rcv site hops mx mxs maxCost walk iniSite floor) 25)).alloc (.cells (msgV 5 ini search snd frm rcv site hops mx mxs maxCost walk iniSite floor) 25)).alloc (.cells #[.int .i64 0, .int .i64 1, .int .i64 2, .int .i64 4, .int .i64 7, .int .i64 8, .int .i64 10, .int .i64 3, .int .i64 5, .int .i64 6, .int .i64 9] 26)) := (((Below.refl _ w).alloc (Nat.le_refl _) _).alloc (by simp) _).alloc (by simp; omega) _
  have HA := hide hA
  have HT := hide htab
  have HR := hide recv
  have HF := hide ref
  clear ref
  clear hA htab recv
  unfold msgV at k6' ⊢
  go_enter Ybaz.func3, Ybaz.ntmps3
  go_wp2_with fail
  refine (kinds5 _).mono ?_
  rintro e w1 ⟨rfl, rfl⟩
  unfold kinds11
  go_wp2_with fail
  refine k6'.out.mono ?_
  rintro e w1 ⟨rfl, hm⟩
  have hB1 : Below w.heap.size w w1 := HA.out.trans (hm.below.mono HA.out.size)
  have hx : w1.heap[w.heap.size + 1]? = some (.cells (msgV 5 ini search snd frm rcv site hops mx mxs maxCost walk iniSite floor) 25) := (hm.below.block _ (by simp)).trans ((heap_alloc_past _ _ (by simp)).trans (heap_alloc_at _ _ (by simp)))
  have hf := Fresh.of_made hm
  simp only [World.size_alloc] at hf
  have B1 : Base F w1 _ _ _ _ ⟨#[115, 49]⟩ a t := ⟨hf, by rw [hB1.tape]; exact hF, (hB1.cell (p := ⟨0, 0, none⟩) h0).trans he, Nat.lt_of_lt_of_le h0 hB1.size, (hB1.cell ha).trans ht, Nat.lt_of_lt_of_le ha hB1.size⟩
  have kR := hide (HR.out w1 _ _ _ _ B1 (Lib.tabBelow_of_tabIs HT.out w1 hB1))
  have HX := hide hx
  have m0 := cell_in hx 0
  have m1 := cell_in hx 1
  have m2 := cell_in hx 2
  have m3 := cell_in hx 3
  have m4 := cell_in hx 4
  have m5 := cell_in hx 5
  have m6 := cell_in hx 6
  have m7 := cell_in hx 7
  have m8 := cell_in hx 8
  have m9 := cell_in hx 9
  have m10 := cell_in hx 10
  have m11 := cell_in hx 11
  have m12 := cell_in hx 12
  have m13 := cell_in hx 13
  simp [msgV] at m0 m1 m2 m3 m4 m5 m6 m7 m8 m9 m10 m11 m12 m13
  have HB1 := hide hB1
  clear hm hf B1 hx hB1 HA HT HR k6' he ht ha hF hidx
  unfold msgV at kR
  go_wp2_with fail
  refine kR.out.mono ?_
  rintro e w2 ⟨v, rfl, hB2⟩
  have hx2 : w2.heap[w.heap.size + 1]? = some (.cells (msgV 5 ini search snd frm rcv site hops mx mxs maxCost walk iniSite floor) 25) := (hB2.block _ (lt_in HX.out)).trans HX.out
  clear m0 m1 m2 m3 m4 m5 m6 m7 m8 m9 m10 m11 m12 m13 kR
  have m0 := cell_in hx2 0
  have m1 := cell_in hx2 1
  have m2 := cell_in hx2 2
  have m3 := cell_in hx2 3
  have m4 := cell_in hx2 4
  have m5 := cell_in hx2 5
  have m6 := cell_in hx2 6
  have m7 := cell_in hx2 7
  have m8 := cell_in hx2 8
  have m9 := cell_in hx2 9
  have m10 := cell_in hx2 10
  have m11 := cell_in hx2 11
  have m12 := cell_in hx2 12
  have m13 := cell_in hx2 13
  simp [msgV] at m0 m1 m2 m3 m4 m5 m6 m7 m8 m9 m10 m11 m12 m13
  have k8 := hide (HF.out w2)
  unfold msgV at k8
  have HB2 := hide hB2
  clear hx2 hB2
  go_wp2_with fail
  refine k8.out.mono ?_
  rintro e w3 ⟨rfl, rfl⟩
  go_wp2
  go_ret
  have hE := HB1.out.trans (HB2.out.mono HB1.out.size)
  exact ⟨rfl, hE.alloc hE.size _⟩

set_option maxRecDepth 100000 in
set_option maxHeartbeats 2000000 in
theorem law3_z_6r (sel kind search hops maxCost walk floor : Int) (ini snd frm rcv site mx mxs iniSite : ByteArray) (n0 : Int) (hF : F.answers w.tape) (he : w.cell? ⟨0, 0, none⟩ = some (.iface 131 (.pointer (some a)))) (h0 : 0 < w.heap.size) (ht : w.cell? a = some (.string t)) (ha : a.block < w.heap.size) (htab : Lib.TabIs Ybaz.prog w nT .u64 Lib.pow10Tab) (hidx : ∀ W, (Instr.index 26 (.agg #[.int .i64 0, .int .i64 1, .int .i64 2, .int .i64 4, .int .i64 7, .int .i64 8, .int .i64 10, .int .i64 3, .int .i64 5, .int .i64 6, .int .i64 9]) (.int .i64 ((wrap64 n0).tmod 11))).run Ybaz.prog W = .ok (.int .i64 6) W) (hz : Int.tmod sel 4 = 0) (recv : ∀ (w1 : World) (sb i q f : Nat), Base F w1 sb i q f ⟨#[115, 49]⟩ a t → Lib.TabIs Ybaz.prog w1 nT .u64 Lib.pow10Tab → Calls Ybaz.prog 7 #[.pointer (some ⟨sb, 0, none⟩), .agg (msgV 6 ini search snd frm rcv site hops mx mxs maxCost walk iniSite floor)] w1 fun e w' => e = .returned (.slice none 0 0) ∧ Below w1.heap.size w1 w') (ref : ∀ w1, Calls Ybaz.prog 8 #[.string ⟨#[115, 49]⟩, .agg (msgV 6 ini search snd frm rcv site hops mx mxs maxCost walk iniSite floor)] w1 fun e w' => e = .returned (.bool true) ∧ w' = w1.alloc (.cells (msgV 6 ini search snd frm rcv site hops mx mxs maxCost walk iniSite floor) 25)) :
    Calls Ybaz.prog 3 #[.int .u8 n0, .int .u8 sel, .agg (msgV kind ini search snd frm rcv site hops mx mxs maxCost walk iniSite floor)] w fun e w' => e = .returned (.bool true) ∧ Below w.heap.size w w' := by
  have k6' := hide (newSite_any ⟨#[115, 49]⟩ (((w.alloc (.cells (msgV kind ini search snd frm rcv site hops mx mxs maxCost walk iniSite floor) 25)).alloc (.cells (msgV 6 ini search snd frm rcv site hops mx mxs maxCost walk iniSite floor) 25)).alloc (.cells #[.int .i64 0, .int .i64 1, .int .i64 2, .int .i64 4, .int .i64 7, .int .i64 8, .int .i64 10, .int .i64 3, .int .i64 5, .int .i64 6, .int .i64 9] 26)))
  have hA : Below w.heap.size w (((w.alloc (.cells (msgV kind ini search snd frm rcv site hops mx mxs maxCost walk iniSite floor) 25)).alloc (.cells (msgV 6 ini search snd frm rcv site hops mx mxs maxCost walk iniSite floor) 25)).alloc (.cells #[.int .i64 0, .int .i64 1, .int .i64 2, .int .i64 4, .int .i64 7, .int .i64 8, .int .i64 10, .int .i64 3, .int .i64 5, .int .i64 6, .int .i64 9] 26)) := (((Below.refl _ w).alloc (Nat.le_refl _) _).alloc (by simp) _).alloc (by simp; omega) _
  have HA := hide hA
  have HT := hide htab
  have HR := hide recv
  have HF := hide ref
  clear ref
  clear hA htab recv
  unfold msgV at k6' ⊢
  go_enter Ybaz.func3, Ybaz.ntmps3
  go_wp2_with fail
  refine (kinds5 _).mono ?_
  rintro e w1 ⟨rfl, rfl⟩
  unfold kinds11
  go_wp2_with fail
  refine k6'.out.mono ?_
  rintro e w1 ⟨rfl, hm⟩
  have hB1 : Below w.heap.size w w1 := HA.out.trans (hm.below.mono HA.out.size)
  have hx : w1.heap[w.heap.size + 1]? = some (.cells (msgV 6 ini search snd frm rcv site hops mx mxs maxCost walk iniSite floor) 25) := (hm.below.block _ (by simp)).trans ((heap_alloc_past _ _ (by simp)).trans (heap_alloc_at _ _ (by simp)))
  have hf := Fresh.of_made hm
  simp only [World.size_alloc] at hf
  have B1 : Base F w1 _ _ _ _ ⟨#[115, 49]⟩ a t := ⟨hf, by rw [hB1.tape]; exact hF, (hB1.cell (p := ⟨0, 0, none⟩) h0).trans he, Nat.lt_of_lt_of_le h0 hB1.size, (hB1.cell ha).trans ht, Nat.lt_of_lt_of_le ha hB1.size⟩
  have kR := hide (HR.out w1 _ _ _ _ B1 (Lib.tabBelow_of_tabIs HT.out w1 hB1))
  have HX := hide hx
  have m0 := cell_in hx 0
  have m1 := cell_in hx 1
  have m2 := cell_in hx 2
  have m3 := cell_in hx 3
  have m4 := cell_in hx 4
  have m5 := cell_in hx 5
  have m6 := cell_in hx 6
  have m7 := cell_in hx 7
  have m8 := cell_in hx 8
  have m9 := cell_in hx 9
  have m10 := cell_in hx 10
  have m11 := cell_in hx 11
  have m12 := cell_in hx 12
  have m13 := cell_in hx 13
  simp [msgV] at m0 m1 m2 m3 m4 m5 m6 m7 m8 m9 m10 m11 m12 m13
  have HB1 := hide hB1
  clear hm hf B1 hx hB1 HA HT HR k6' he ht ha hF hidx
  unfold msgV at kR
  go_wp2_with fail
  refine kR.out.mono ?_
  rintro e w2 ⟨rfl, hB2⟩
  have hx2 : w2.heap[w.heap.size + 1]? = some (.cells (msgV 6 ini search snd frm rcv site hops mx mxs maxCost walk iniSite floor) 25) := (hB2.block _ (lt_in HX.out)).trans HX.out
  clear m0 m1 m2 m3 m4 m5 m6 m7 m8 m9 m10 m11 m12 m13 kR
  have m0 := cell_in hx2 0
  have m1 := cell_in hx2 1
  have m2 := cell_in hx2 2
  have m3 := cell_in hx2 3
  have m4 := cell_in hx2 4
  have m5 := cell_in hx2 5
  have m6 := cell_in hx2 6
  have m7 := cell_in hx2 7
  have m8 := cell_in hx2 8
  have m9 := cell_in hx2 9
  have m10 := cell_in hx2 10
  have m11 := cell_in hx2 11
  have m12 := cell_in hx2 12
  have m13 := cell_in hx2 13
  simp [msgV] at m0 m1 m2 m3 m4 m5 m6 m7 m8 m9 m10 m11 m12 m13
  have k8 := hide (HF.out w2)
  unfold msgV at k8
  have HB2 := hide hB2
  clear hx2 hB2
  go_wp2_with fail
  refine k8.out.mono ?_
  rintro e w3 ⟨rfl, rfl⟩
  go_wp2
  go_ret
  have hE := HB1.out.trans (HB2.out.mono HB1.out.size)
  exact ⟨rfl, hE.alloc hE.size _⟩

set_option maxRecDepth 100000 in
set_option maxHeartbeats 2000000 in
theorem law3_z_6t (sel kind search hops maxCost walk floor : Int) (ini snd frm rcv site mx mxs iniSite : ByteArray) (n0 : Int) (hF : F.answers w.tape) (he : w.cell? ⟨0, 0, none⟩ = some (.iface 131 (.pointer (some a)))) (h0 : 0 < w.heap.size) (ht : w.cell? a = some (.string t)) (ha : a.block < w.heap.size) (htab : Lib.TabIs Ybaz.prog w nT .u64 Lib.pow10Tab) (hidx : ∀ W, (Instr.index 26 (.agg #[.int .i64 0, .int .i64 1, .int .i64 2, .int .i64 4, .int .i64 7, .int .i64 8, .int .i64 10, .int .i64 3, .int .i64 5, .int .i64 6, .int .i64 9]) (.int .i64 ((wrap64 n0).tmod 11))).run Ybaz.prog W = .ok (.int .i64 6) W) (hz : Int.tmod sel 4 = 0) (recv : ∀ (w1 : World) (sb i q f : Nat), Base F w1 sb i q f ⟨#[115, 49]⟩ a t → Lib.TabIs Ybaz.prog w1 nT .u64 Lib.pow10Tab → Calls Ybaz.prog 7 #[.pointer (some ⟨sb, 0, none⟩), .agg (msgV 6 ini search snd frm rcv site hops mx mxs maxCost walk iniSite floor)] w1 fun e w' => ∃ v, e = .returned v ∧ Below w1.heap.size w1 w') (ref : ∀ w1, Calls Ybaz.prog 8 #[.string ⟨#[115, 49]⟩, .agg (msgV 6 ini search snd frm rcv site hops mx mxs maxCost walk iniSite floor)] w1 fun e w' => e = .returned (.bool false) ∧ w' = w1.alloc (.cells (msgV 6 ini search snd frm rcv site hops mx mxs maxCost walk iniSite floor) 25)) :
    Calls Ybaz.prog 3 #[.int .u8 n0, .int .u8 sel, .agg (msgV kind ini search snd frm rcv site hops mx mxs maxCost walk iniSite floor)] w fun e w' => e = .returned (.bool true) ∧ Below w.heap.size w w' := by
  have k6' := hide (newSite_any ⟨#[115, 49]⟩ (((w.alloc (.cells (msgV kind ini search snd frm rcv site hops mx mxs maxCost walk iniSite floor) 25)).alloc (.cells (msgV 6 ini search snd frm rcv site hops mx mxs maxCost walk iniSite floor) 25)).alloc (.cells #[.int .i64 0, .int .i64 1, .int .i64 2, .int .i64 4, .int .i64 7, .int .i64 8, .int .i64 10, .int .i64 3, .int .i64 5, .int .i64 6, .int .i64 9] 26)))
  have hA : Below w.heap.size w (((w.alloc (.cells (msgV kind ini search snd frm rcv site hops mx mxs maxCost walk iniSite floor) 25)).alloc (.cells (msgV 6 ini search snd frm rcv site hops mx mxs maxCost walk iniSite floor) 25)).alloc (.cells #[.int .i64 0, .int .i64 1, .int .i64 2, .int .i64 4, .int .i64 7, .int .i64 8, .int .i64 10, .int .i64 3, .int .i64 5, .int .i64 6, .int .i64 9] 26)) := (((Below.refl _ w).alloc (Nat.le_refl _) _).alloc (by simp) _).alloc (by simp; omega) _
  have HA := hide hA
  have HT := hide htab
  have HR := hide recv
  have HF := hide ref
  clear ref
  clear hA htab recv
  unfold msgV at k6' ⊢
  go_enter Ybaz.func3, Ybaz.ntmps3
  go_wp2_with fail
  refine (kinds5 _).mono ?_
  rintro e w1 ⟨rfl, rfl⟩
  unfold kinds11
  go_wp2_with fail
  refine k6'.out.mono ?_
  rintro e w1 ⟨rfl, hm⟩
  have hB1 : Below w.heap.size w w1 := HA.out.trans (hm.below.mono HA.out.size)
  have hx : w1.heap[w.heap.size + 1]? = some (.cells (msgV 6 ini search snd frm rcv site hops mx mxs maxCost walk iniSite floor) 25) := (hm.below.block _ (by simp)).trans ((heap_alloc_past _ _ (by simp)).trans (heap_alloc_at _ _ (by simp)))
  have hf := Fresh.of_made hm
  simp only [World.size_alloc] at hf
  have B1 : Base F w1 _ _ _ _ ⟨#[115, 49]⟩ a t := ⟨hf, by rw [hB1.tape]; exact hF, (hB1.cell (p := ⟨0, 0, none⟩) h0).trans he, Nat.lt_of_lt_of_le h0 hB1.size, (hB1.cell ha).trans ht, Nat.lt_of_lt_of_le ha hB1.size⟩
  have kR := hide (HR.out w1 _ _ _ _ B1 (Lib.tabBelow_of_tabIs HT.out w1 hB1))
  have HX := hide hx
  have m0 := cell_in hx 0
  have m1 := cell_in hx 1
  have m2 := cell_in hx 2
  have m3 := cell_in hx 3
  have m4 := cell_in hx 4
  have m5 := cell_in hx 5
  have m6 := cell_in hx 6
  have m7 := cell_in hx 7
  have m8 := cell_in hx 8
  have m9 := cell_in hx 9
  have m10 := cell_in hx 10
  have m11 := cell_in hx 11
  have m12 := cell_in hx 12
  have m13 := cell_in hx 13
  simp [msgV] at m0 m1 m2 m3 m4 m5 m6 m7 m8 m9 m10 m11 m12 m13
  have HB1 := hide hB1
  clear hm hf B1 hx hB1 HA HT HR k6' he ht ha hF hidx
  unfold msgV at kR
  go_wp2_with fail
  refine kR.out.mono ?_
  rintro e w2 ⟨v, rfl, hB2⟩
  have hx2 : w2.heap[w.heap.size + 1]? = some (.cells (msgV 6 ini search snd frm rcv site hops mx mxs maxCost walk iniSite floor) 25) := (hB2.block _ (lt_in HX.out)).trans HX.out
  clear m0 m1 m2 m3 m4 m5 m6 m7 m8 m9 m10 m11 m12 m13 kR
  have m0 := cell_in hx2 0
  have m1 := cell_in hx2 1
  have m2 := cell_in hx2 2
  have m3 := cell_in hx2 3
  have m4 := cell_in hx2 4
  have m5 := cell_in hx2 5
  have m6 := cell_in hx2 6
  have m7 := cell_in hx2 7
  have m8 := cell_in hx2 8
  have m9 := cell_in hx2 9
  have m10 := cell_in hx2 10
  have m11 := cell_in hx2 11
  have m12 := cell_in hx2 12
  have m13 := cell_in hx2 13
  simp [msgV] at m0 m1 m2 m3 m4 m5 m6 m7 m8 m9 m10 m11 m12 m13
  have k8 := hide (HF.out w2)
  unfold msgV at k8
  have HB2 := hide hB2
  clear hx2 hB2
  go_wp2_with fail
  refine k8.out.mono ?_
  rintro e w3 ⟨rfl, rfl⟩
  go_wp2
  go_ret
  have hE := HB1.out.trans (HB2.out.mono HB1.out.size)
  exact ⟨rfl, hE.alloc hE.size _⟩

set_option maxRecDepth 100000 in
set_option maxHeartbeats 2000000 in
theorem law3_n_o (sel kind search hops maxCost walk floor : Int) (ini snd frm rcv site mx mxs iniSite : ByteArray) (n0 : Int) (hF : F.answers w.tape) (he : w.cell? ⟨0, 0, none⟩ = some (.iface 131 (.pointer (some a)))) (h0 : 0 < w.heap.size) (ht : w.cell? a = some (.string t)) (ha : a.block < w.heap.size) (htab : Lib.TabIs Ybaz.prog w nT .u64 Lib.pow10Tab) (kd : Int) (hidx : ∀ W, (Instr.index 26 (.agg #[.int .i64 0, .int .i64 1, .int .i64 2, .int .i64 4, .int .i64 7, .int .i64 8, .int .i64 10, .int .i64 3, .int .i64 5, .int .i64 6, .int .i64 9]) (.int .i64 ((wrap64 n0).tmod 11))).run Ybaz.prog W = .ok (.int .i64 kd) W) (hz : ¬ (Int.tmod sel 4 = 0)) (k5 : (kd == 5) = false) (k6 : (kd == 6) = false) (recv : ∀ (w1 : World) (sb i q f : Nat), Base F w1 sb i q f ⟨#[115, 49]⟩ a t → Lib.TabIs Ybaz.prog w1 nT .u64 Lib.pow10Tab → Calls Ybaz.prog 7 #[.pointer (some ⟨sb, 0, none⟩), .agg (msgV kd ini search snd frm rcv ⟨#[115, 49]⟩ hops mx mxs maxCost walk iniSite floor)] w1 fun e w' => e = .returned (.slice none 0 0) ∧ Below w1.heap.size w1 w') :
    Calls Ybaz.prog 3 #[.int .u8 n0, .int .u8 sel, .agg (msgV kind ini search snd frm rcv site hops mx mxs maxCost walk iniSite floor)] w fun e w' => e = .returned (.bool true) ∧ Below w.heap.size w w' := by
  have k6' := hide (newSite_any ⟨#[115, 49]⟩ (((w.alloc (.cells (msgV kind ini search snd frm rcv site hops mx mxs maxCost walk iniSite floor) 25)).alloc (.cells (msgV kd ini search snd frm rcv ⟨#[115, 49]⟩ hops mx mxs maxCost walk iniSite floor) 25)).alloc (.cells #[.int .i64 0, .int .i64 1, .int .i64 2, .int .i64 4, .int .i64 7, .int .i64 8, .int .i64 10, .int .i64 3, .int .i64 5, .int .i64 6, .int .i64 9] 26)))
  have hA : Below w.heap.size w (((w.alloc (.cells (msgV kind ini search snd frm rcv site hops mx mxs maxCost walk iniSite floor) 25)).alloc (.cells (msgV kd ini search snd frm rcv ⟨#[115, 49]⟩ hops mx mxs maxCost walk iniSite floor) 25)).alloc (.cells #[.int .i64 0, .int .i64 1, .int .i64 2, .int .i64 4, .int .i64 7, .int .i64 8, .int .i64 10, .int .i64 3, .int .i64 5, .int .i64 6, .int .i64 9] 26)) := (((Below.refl _ w).alloc (Nat.le_refl _) _).alloc (by simp) _).alloc (by simp; omega) _
  have HA := hide hA
  have HT := hide htab
  have HR := hide recv
  clear hA htab recv
  unfold msgV at k6' ⊢
  go_enter Ybaz.func3, Ybaz.ntmps3
  go_wp2_with fail
  refine (kinds5 _).mono ?_
  rintro e w1 ⟨rfl, rfl⟩
  unfold kinds11
  go_wp2_with fail
  refine k6'.out.mono ?_
  rintro e w1 ⟨rfl, hm⟩
  have hB1 : Below w.heap.size w w1 := HA.out.trans (hm.below.mono HA.out.size)
  have hx : w1.heap[w.heap.size + 1]? = some (.cells (msgV kd ini search snd frm rcv ⟨#[115, 49]⟩ hops mx mxs maxCost walk iniSite floor) 25) := (hm.below.block _ (by simp)).trans ((heap_alloc_past _ _ (by simp)).trans (heap_alloc_at _ _ (by simp)))
  have hf := Fresh.of_made hm
  simp only [World.size_alloc] at hf
  have B1 : Base F w1 _ _ _ _ ⟨#[115, 49]⟩ a t := ⟨hf, by rw [hB1.tape]; exact hF, (hB1.cell (p := ⟨0, 0, none⟩) h0).trans he, Nat.lt_of_lt_of_le h0 hB1.size, (hB1.cell ha).trans ht, Nat.lt_of_lt_of_le ha hB1.size⟩
  have kR := hide (HR.out w1 _ _ _ _ B1 (Lib.tabBelow_of_tabIs HT.out w1 hB1))
  have HX := hide hx
  have m0 := cell_in hx 0
  have m1 := cell_in hx 1
  have m2 := cell_in hx 2
  have m3 := cell_in hx 3
  have m4 := cell_in hx 4
  have m5 := cell_in hx 5
  have m6 := cell_in hx 6
  have m7 := cell_in hx 7
  have m8 := cell_in hx 8
  have m9 := cell_in hx 9
  have m10 := cell_in hx 10
  have m11 := cell_in hx 11
  have m12 := cell_in hx 12
  have m13 := cell_in hx 13
  simp [msgV] at m0 m1 m2 m3 m4 m5 m6 m7 m8 m9 m10 m11 m12 m13
  have HB1 := hide hB1
  clear hm hf B1 hx hB1 HA HT HR k6' he ht ha hF hidx
  unfold msgV at kR
  go_wp2_with fail
  refine kR.out.mono ?_
  rintro e w2 ⟨rfl, hB2⟩
  have hx2 : w2.heap[w.heap.size + 1]? = some (.cells (msgV kd ini search snd frm rcv ⟨#[115, 49]⟩ hops mx mxs maxCost walk iniSite floor) 25) := (hB2.block _ (lt_in HX.out)).trans HX.out
  clear m0 m1 m2 m3 m4 m5 m6 m7 m8 m9 m10 m11 m12 m13 kR
  have m0 := cell_in hx2 0
  have m1 := cell_in hx2 1
  have m2 := cell_in hx2 2
  have m3 := cell_in hx2 3
  have m4 := cell_in hx2 4
  have m5 := cell_in hx2 5
  have m6 := cell_in hx2 6
  have m7 := cell_in hx2 7
  have m8 := cell_in hx2 8
  have m9 := cell_in hx2 9
  have m10 := cell_in hx2 10
  have m11 := cell_in hx2 11
  have m12 := cell_in hx2 12
  have m13 := cell_in hx2 13
  simp [msgV] at m0 m1 m2 m3 m4 m5 m6 m7 m8 m9 m10 m11 m12 m13
  have HB2 := hide hB2
  clear hx2 hB2
  go_wp2
  go_ret
  exact ⟨rfl, HB1.out.trans (HB2.out.mono HB1.out.size)⟩

set_option maxRecDepth 100000 in
set_option maxHeartbeats 2000000 in
theorem law3_n_5r (sel kind search hops maxCost walk floor : Int) (ini snd frm rcv site mx mxs iniSite : ByteArray) (n0 : Int) (hF : F.answers w.tape) (he : w.cell? ⟨0, 0, none⟩ = some (.iface 131 (.pointer (some a)))) (h0 : 0 < w.heap.size) (ht : w.cell? a = some (.string t)) (ha : a.block < w.heap.size) (htab : Lib.TabIs Ybaz.prog w nT .u64 Lib.pow10Tab) (hidx : ∀ W, (Instr.index 26 (.agg #[.int .i64 0, .int .i64 1, .int .i64 2, .int .i64 4, .int .i64 7, .int .i64 8, .int .i64 10, .int .i64 3, .int .i64 5, .int .i64 6, .int .i64 9]) (.int .i64 ((wrap64 n0).tmod 11))).run Ybaz.prog W = .ok (.int .i64 5) W) (hz : ¬ (Int.tmod sel 4 = 0)) (recv : ∀ (w1 : World) (sb i q f : Nat), Base F w1 sb i q f ⟨#[115, 49]⟩ a t → Lib.TabIs Ybaz.prog w1 nT .u64 Lib.pow10Tab → Calls Ybaz.prog 7 #[.pointer (some ⟨sb, 0, none⟩), .agg (msgV 5 ini search snd frm rcv ⟨#[115, 49]⟩ hops mx mxs maxCost walk iniSite floor)] w1 fun e w' => e = .returned (.slice none 0 0) ∧ Below w1.heap.size w1 w') (ref : ∀ w1, Calls Ybaz.prog 8 #[.string ⟨#[115, 49]⟩, .agg (msgV 5 ini search snd frm rcv ⟨#[115, 49]⟩ hops mx mxs maxCost walk iniSite floor)] w1 fun e w' => e = .returned (.bool true) ∧ w' = w1.alloc (.cells (msgV 5 ini search snd frm rcv ⟨#[115, 49]⟩ hops mx mxs maxCost walk iniSite floor) 25)) :
    Calls Ybaz.prog 3 #[.int .u8 n0, .int .u8 sel, .agg (msgV kind ini search snd frm rcv site hops mx mxs maxCost walk iniSite floor)] w fun e w' => e = .returned (.bool true) ∧ Below w.heap.size w w' := by
  have k6' := hide (newSite_any ⟨#[115, 49]⟩ (((w.alloc (.cells (msgV kind ini search snd frm rcv site hops mx mxs maxCost walk iniSite floor) 25)).alloc (.cells (msgV 5 ini search snd frm rcv ⟨#[115, 49]⟩ hops mx mxs maxCost walk iniSite floor) 25)).alloc (.cells #[.int .i64 0, .int .i64 1, .int .i64 2, .int .i64 4, .int .i64 7, .int .i64 8, .int .i64 10, .int .i64 3, .int .i64 5, .int .i64 6, .int .i64 9] 26)))
  have hA : Below w.heap.size w (((w.alloc (.cells (msgV kind ini search snd frm rcv site hops mx mxs maxCost walk iniSite floor) 25)).alloc (.cells (msgV 5 ini search snd frm rcv ⟨#[115, 49]⟩ hops mx mxs maxCost walk iniSite floor) 25)).alloc (.cells #[.int .i64 0, .int .i64 1, .int .i64 2, .int .i64 4, .int .i64 7, .int .i64 8, .int .i64 10, .int .i64 3, .int .i64 5, .int .i64 6, .int .i64 9] 26)) := (((Below.refl _ w).alloc (Nat.le_refl _) _).alloc (by simp) _).alloc (by simp; omega) _
  have HA := hide hA
  have HT := hide htab
  have HR := hide recv
  have HF := hide ref
  clear ref
  clear hA htab recv
  unfold msgV at k6' ⊢
  go_enter Ybaz.func3, Ybaz.ntmps3
  go_wp2_with fail
  refine (kinds5 _).mono ?_
  rintro e w1 ⟨rfl, rfl⟩
  unfold kinds11
  go_wp2_with fail
  refine k6'.out.mono ?_
  rintro e w1 ⟨rfl, hm⟩
  have hB1 : Below w.heap.size w w1 := HA.out.trans (hm.below.mono HA.out.size)
  have hx : w1.heap[w.heap.size + 1]? = some (.cells (msgV 5 ini search snd frm rcv ⟨#[115, 49]⟩ hops mx mxs maxCost walk iniSite floor) 25) := (hm.below.block _ (by simp)).trans ((heap_alloc_past _ _ (by simp)).trans (heap_alloc_at _ _ (by simp)))
  have hf := Fresh.of_made hm
  simp only [World.size_alloc] at hf
  have B1 : Base F w1 _ _ _ _ ⟨#[115, 49]⟩ a t := ⟨hf, by rw [hB1.tape]; exact hF, (hB1.cell (p := ⟨0, 0, none⟩) h0).trans he, Nat.lt_of_lt_of_le h0 hB1.size, (hB1.cell ha).trans ht, Nat.lt_of_lt_of_le ha hB1.size⟩
  have kR := hide (HR.out w1 _ _ _ _ B1 (Lib.tabBelow_of_tabIs HT.out w1 hB1))
  have HX := hide hx
  have m0 := cell_in hx 0
  have m1 := cell_in hx 1
  have m2 := cell_in hx 2
  have m3 := cell_in hx 3
  have m4 := cell_in hx 4
  have m5 := cell_in hx 5
  have m6 := cell_in hx 6
  have m7 := cell_in hx 7
  have m8 := cell_in hx 8
  have m9 := cell_in hx 9
  have m10 := cell_in hx 10
  have m11 := cell_in hx 11
  have m12 := cell_in hx 12
  have m13 := cell_in hx 13
  simp [msgV] at m0 m1 m2 m3 m4 m5 m6 m7 m8 m9 m10 m11 m12 m13
  have HB1 := hide hB1
  clear hm hf B1 hx hB1 HA HT HR k6' he ht ha hF hidx
  unfold msgV at kR
  go_wp2_with fail
  refine kR.out.mono ?_
  rintro e w2 ⟨rfl, hB2⟩
  have hx2 : w2.heap[w.heap.size + 1]? = some (.cells (msgV 5 ini search snd frm rcv ⟨#[115, 49]⟩ hops mx mxs maxCost walk iniSite floor) 25) := (hB2.block _ (lt_in HX.out)).trans HX.out
  clear m0 m1 m2 m3 m4 m5 m6 m7 m8 m9 m10 m11 m12 m13 kR
  have m0 := cell_in hx2 0
  have m1 := cell_in hx2 1
  have m2 := cell_in hx2 2
  have m3 := cell_in hx2 3
  have m4 := cell_in hx2 4
  have m5 := cell_in hx2 5
  have m6 := cell_in hx2 6
  have m7 := cell_in hx2 7
  have m8 := cell_in hx2 8
  have m9 := cell_in hx2 9
  have m10 := cell_in hx2 10
  have m11 := cell_in hx2 11
  have m12 := cell_in hx2 12
  have m13 := cell_in hx2 13
  simp [msgV] at m0 m1 m2 m3 m4 m5 m6 m7 m8 m9 m10 m11 m12 m13
  have k8 := hide (HF.out w2)
  unfold msgV at k8
  have HB2 := hide hB2
  clear hx2 hB2
  go_wp2_with fail
  refine k8.out.mono ?_
  rintro e w3 ⟨rfl, rfl⟩
  go_wp2
  go_ret
  have hE := HB1.out.trans (HB2.out.mono HB1.out.size)
  exact ⟨rfl, hE.alloc hE.size _⟩

set_option maxRecDepth 100000 in
set_option maxHeartbeats 2000000 in
theorem law3_n_5t (sel kind search hops maxCost walk floor : Int) (ini snd frm rcv site mx mxs iniSite : ByteArray) (n0 : Int) (hF : F.answers w.tape) (he : w.cell? ⟨0, 0, none⟩ = some (.iface 131 (.pointer (some a)))) (h0 : 0 < w.heap.size) (ht : w.cell? a = some (.string t)) (ha : a.block < w.heap.size) (htab : Lib.TabIs Ybaz.prog w nT .u64 Lib.pow10Tab) (hidx : ∀ W, (Instr.index 26 (.agg #[.int .i64 0, .int .i64 1, .int .i64 2, .int .i64 4, .int .i64 7, .int .i64 8, .int .i64 10, .int .i64 3, .int .i64 5, .int .i64 6, .int .i64 9]) (.int .i64 ((wrap64 n0).tmod 11))).run Ybaz.prog W = .ok (.int .i64 5) W) (hz : ¬ (Int.tmod sel 4 = 0)) (recv : ∀ (w1 : World) (sb i q f : Nat), Base F w1 sb i q f ⟨#[115, 49]⟩ a t → Lib.TabIs Ybaz.prog w1 nT .u64 Lib.pow10Tab → Calls Ybaz.prog 7 #[.pointer (some ⟨sb, 0, none⟩), .agg (msgV 5 ini search snd frm rcv ⟨#[115, 49]⟩ hops mx mxs maxCost walk iniSite floor)] w1 fun e w' => ∃ v, e = .returned v ∧ Below w1.heap.size w1 w') (ref : ∀ w1, Calls Ybaz.prog 8 #[.string ⟨#[115, 49]⟩, .agg (msgV 5 ini search snd frm rcv ⟨#[115, 49]⟩ hops mx mxs maxCost walk iniSite floor)] w1 fun e w' => e = .returned (.bool false) ∧ w' = w1.alloc (.cells (msgV 5 ini search snd frm rcv ⟨#[115, 49]⟩ hops mx mxs maxCost walk iniSite floor) 25)) :
    Calls Ybaz.prog 3 #[.int .u8 n0, .int .u8 sel, .agg (msgV kind ini search snd frm rcv site hops mx mxs maxCost walk iniSite floor)] w fun e w' => e = .returned (.bool true) ∧ Below w.heap.size w w' := by
  have k6' := hide (newSite_any ⟨#[115, 49]⟩ (((w.alloc (.cells (msgV kind ini search snd frm rcv site hops mx mxs maxCost walk iniSite floor) 25)).alloc (.cells (msgV 5 ini search snd frm rcv ⟨#[115, 49]⟩ hops mx mxs maxCost walk iniSite floor) 25)).alloc (.cells #[.int .i64 0, .int .i64 1, .int .i64 2, .int .i64 4, .int .i64 7, .int .i64 8, .int .i64 10, .int .i64 3, .int .i64 5, .int .i64 6, .int .i64 9] 26)))
  have hA : Below w.heap.size w (((w.alloc (.cells (msgV kind ini search snd frm rcv site hops mx mxs maxCost walk iniSite floor) 25)).alloc (.cells (msgV 5 ini search snd frm rcv ⟨#[115, 49]⟩ hops mx mxs maxCost walk iniSite floor) 25)).alloc (.cells #[.int .i64 0, .int .i64 1, .int .i64 2, .int .i64 4, .int .i64 7, .int .i64 8, .int .i64 10, .int .i64 3, .int .i64 5, .int .i64 6, .int .i64 9] 26)) := (((Below.refl _ w).alloc (Nat.le_refl _) _).alloc (by simp) _).alloc (by simp; omega) _
  have HA := hide hA
  have HT := hide htab
  have HR := hide recv
  have HF := hide ref
  clear ref
  clear hA htab recv
  unfold msgV at k6' ⊢
  go_enter Ybaz.func3, Ybaz.ntmps3
  go_wp2_with fail
  refine (kinds5 _).mono ?_
  rintro e w1 ⟨rfl, rfl⟩
  unfold kinds11
  go_wp2_with fail
  refine k6'.out.mono ?_
  rintro e w1 ⟨rfl, hm⟩
  have hB1 : Below w.heap.size w w1 := HA.out.trans (hm.below.mono HA.out.size)
  have hx : w1.heap[w.heap.size + 1]? = some (.cells (msgV 5 ini search snd frm rcv ⟨#[115, 49]⟩ hops mx mxs maxCost walk iniSite floor) 25) := (hm.below.block _ (by simp)).trans ((heap_alloc_past _ _ (by simp)).trans (heap_alloc_at _ _ (by simp)))
  have hf := Fresh.of_made hm
  simp only [World.size_alloc] at hf
  have B1 : Base F w1 _ _ _ _ ⟨#[115, 49]⟩ a t := ⟨hf, by rw [hB1.tape]; exact hF, (hB1.cell (p := ⟨0, 0, none⟩) h0).trans he, Nat.lt_of_lt_of_le h0 hB1.size, (hB1.cell ha).trans ht, Nat.lt_of_lt_of_le ha hB1.size⟩
  have kR := hide (HR.out w1 _ _ _ _ B1 (Lib.tabBelow_of_tabIs HT.out w1 hB1))
  have HX := hide hx
  have m0 := cell_in hx 0
  have m1 := cell_in hx 1
  have m2 := cell_in hx 2
  have m3 := cell_in hx 3
  have m4 := cell_in hx 4
  have m5 := cell_in hx 5
  have m6 := cell_in hx 6
  have m7 := cell_in hx 7
  have m8 := cell_in hx 8
  have m9 := cell_in hx 9
  have m10 := cell_in hx 10
  have m11 := cell_in hx 11
  have m12 := cell_in hx 12
  have m13 := cell_in hx 13
  simp [msgV] at m0 m1 m2 m3 m4 m5 m6 m7 m8 m9 m10 m11 m12 m13
  have HB1 := hide hB1
  clear hm hf B1 hx hB1 HA HT HR k6' he ht ha hF hidx
  unfold msgV at kR
  go_wp2_with fail
  refine kR.out.mono ?_
  rintro e w2 ⟨v, rfl, hB2⟩
  have hx2 : w2.heap[w.heap.size + 1]? = some (.cells (msgV 5 ini search snd frm rcv ⟨#[115, 49]⟩ hops mx mxs maxCost walk iniSite floor) 25) := (hB2.block _ (lt_in HX.out)).trans HX.out
  clear m0 m1 m2 m3 m4 m5 m6 m7 m8 m9 m10 m11 m12 m13 kR
  have m0 := cell_in hx2 0
  have m1 := cell_in hx2 1
  have m2 := cell_in hx2 2
  have m3 := cell_in hx2 3
  have m4 := cell_in hx2 4
  have m5 := cell_in hx2 5
  have m6 := cell_in hx2 6
  have m7 := cell_in hx2 7
  have m8 := cell_in hx2 8
  have m9 := cell_in hx2 9
  have m10 := cell_in hx2 10
  have m11 := cell_in hx2 11
  have m12 := cell_in hx2 12
  have m13 := cell_in hx2 13
  simp [msgV] at m0 m1 m2 m3 m4 m5 m6 m7 m8 m9 m10 m11 m12 m13
  have k8 := hide (HF.out w2)
  unfold msgV at k8
  have HB2 := hide hB2
  clear hx2 hB2
  go_wp2_with fail
  refine k8.out.mono ?_
  rintro e w3 ⟨rfl, rfl⟩
  go_wp2
  go_ret
  have hE := HB1.out.trans (HB2.out.mono HB1.out.size)
  exact ⟨rfl, hE.alloc hE.size _⟩

set_option maxRecDepth 100000 in
set_option maxHeartbeats 2000000 in
theorem law3_n_6r (sel kind search hops maxCost walk floor : Int) (ini snd frm rcv site mx mxs iniSite : ByteArray) (n0 : Int) (hF : F.answers w.tape) (he : w.cell? ⟨0, 0, none⟩ = some (.iface 131 (.pointer (some a)))) (h0 : 0 < w.heap.size) (ht : w.cell? a = some (.string t)) (ha : a.block < w.heap.size) (htab : Lib.TabIs Ybaz.prog w nT .u64 Lib.pow10Tab) (hidx : ∀ W, (Instr.index 26 (.agg #[.int .i64 0, .int .i64 1, .int .i64 2, .int .i64 4, .int .i64 7, .int .i64 8, .int .i64 10, .int .i64 3, .int .i64 5, .int .i64 6, .int .i64 9]) (.int .i64 ((wrap64 n0).tmod 11))).run Ybaz.prog W = .ok (.int .i64 6) W) (hz : ¬ (Int.tmod sel 4 = 0)) (recv : ∀ (w1 : World) (sb i q f : Nat), Base F w1 sb i q f ⟨#[115, 49]⟩ a t → Lib.TabIs Ybaz.prog w1 nT .u64 Lib.pow10Tab → Calls Ybaz.prog 7 #[.pointer (some ⟨sb, 0, none⟩), .agg (msgV 6 ini search snd frm rcv ⟨#[115, 49]⟩ hops mx mxs maxCost walk iniSite floor)] w1 fun e w' => e = .returned (.slice none 0 0) ∧ Below w1.heap.size w1 w') (ref : ∀ w1, Calls Ybaz.prog 8 #[.string ⟨#[115, 49]⟩, .agg (msgV 6 ini search snd frm rcv ⟨#[115, 49]⟩ hops mx mxs maxCost walk iniSite floor)] w1 fun e w' => e = .returned (.bool true) ∧ w' = w1.alloc (.cells (msgV 6 ini search snd frm rcv ⟨#[115, 49]⟩ hops mx mxs maxCost walk iniSite floor) 25)) :
    Calls Ybaz.prog 3 #[.int .u8 n0, .int .u8 sel, .agg (msgV kind ini search snd frm rcv site hops mx mxs maxCost walk iniSite floor)] w fun e w' => e = .returned (.bool true) ∧ Below w.heap.size w w' := by
  have k6' := hide (newSite_any ⟨#[115, 49]⟩ (((w.alloc (.cells (msgV kind ini search snd frm rcv site hops mx mxs maxCost walk iniSite floor) 25)).alloc (.cells (msgV 6 ini search snd frm rcv ⟨#[115, 49]⟩ hops mx mxs maxCost walk iniSite floor) 25)).alloc (.cells #[.int .i64 0, .int .i64 1, .int .i64 2, .int .i64 4, .int .i64 7, .int .i64 8, .int .i64 10, .int .i64 3, .int .i64 5, .int .i64 6, .int .i64 9] 26)))
  have hA : Below w.heap.size w (((w.alloc (.cells (msgV kind ini search snd frm rcv site hops mx mxs maxCost walk iniSite floor) 25)).alloc (.cells (msgV 6 ini search snd frm rcv ⟨#[115, 49]⟩ hops mx mxs maxCost walk iniSite floor) 25)).alloc (.cells #[.int .i64 0, .int .i64 1, .int .i64 2, .int .i64 4, .int .i64 7, .int .i64 8, .int .i64 10, .int .i64 3, .int .i64 5, .int .i64 6, .int .i64 9] 26)) := (((Below.refl _ w).alloc (Nat.le_refl _) _).alloc (by simp) _).alloc (by simp; omega) _
  have HA := hide hA
  have HT := hide htab
  have HR := hide recv
  have HF := hide ref
  clear ref
  clear hA htab recv
  unfold msgV at k6' ⊢
  go_enter Ybaz.func3, Ybaz.ntmps3
  go_wp2_with fail
  refine (kinds5 _).mono ?_
  rintro e w1 ⟨rfl, rfl⟩
  unfold kinds11
  go_wp2_with fail
  refine k6'.out.mono ?_
  rintro e w1 ⟨rfl, hm⟩
  have hB1 : Below w.heap.size w w1 := HA.out.trans (hm.below.mono HA.out.size)
  have hx : w1.heap[w.heap.size + 1]? = some (.cells (msgV 6 ini search snd frm rcv ⟨#[115, 49]⟩ hops mx mxs maxCost walk iniSite floor) 25) := (hm.below.block _ (by simp)).trans ((heap_alloc_past _ _ (by simp)).trans (heap_alloc_at _ _ (by simp)))
  have hf := Fresh.of_made hm
  simp only [World.size_alloc] at hf
  have B1 : Base F w1 _ _ _ _ ⟨#[115, 49]⟩ a t := ⟨hf, by rw [hB1.tape]; exact hF, (hB1.cell (p := ⟨0, 0, none⟩) h0).trans he, Nat.lt_of_lt_of_le h0 hB1.size, (hB1.cell ha).trans ht, Nat.lt_of_lt_of_le ha hB1.size⟩
  have kR := hide (HR.out w1 _ _ _ _ B1 (Lib.tabBelow_of_tabIs HT.out w1 hB1))
  have HX := hide hx
  have m0 := cell_in hx 0
  have m1 := cell_in hx 1
  have m2 := cell_in hx 2
  have m3 := cell_in hx 3
  have m4 := cell_in hx 4
  have m5 := cell_in hx 5
  have m6 := cell_in hx 6
  have m7 := cell_in hx 7
  have m8 := cell_in hx 8
  have m9 := cell_in hx 9
  have m10 := cell_in hx 10
  have m11 := cell_in hx 11
  have m12 := cell_in hx 12
  have m13 := cell_in hx 13
  simp [msgV] at m0 m1 m2 m3 m4 m5 m6 m7 m8 m9 m10 m11 m12 m13
  have HB1 := hide hB1
  clear hm hf B1 hx hB1 HA HT HR k6' he ht ha hF hidx
  unfold msgV at kR
  go_wp2_with fail
  refine kR.out.mono ?_
  rintro e w2 ⟨rfl, hB2⟩
  have hx2 : w2.heap[w.heap.size + 1]? = some (.cells (msgV 6 ini search snd frm rcv ⟨#[115, 49]⟩ hops mx mxs maxCost walk iniSite floor) 25) := (hB2.block _ (lt_in HX.out)).trans HX.out
  clear m0 m1 m2 m3 m4 m5 m6 m7 m8 m9 m10 m11 m12 m13 kR
  have m0 := cell_in hx2 0
  have m1 := cell_in hx2 1
  have m2 := cell_in hx2 2
  have m3 := cell_in hx2 3
  have m4 := cell_in hx2 4
  have m5 := cell_in hx2 5
  have m6 := cell_in hx2 6
  have m7 := cell_in hx2 7
  have m8 := cell_in hx2 8
  have m9 := cell_in hx2 9
  have m10 := cell_in hx2 10
  have m11 := cell_in hx2 11
  have m12 := cell_in hx2 12
  have m13 := cell_in hx2 13
  simp [msgV] at m0 m1 m2 m3 m4 m5 m6 m7 m8 m9 m10 m11 m12 m13
  have k8 := hide (HF.out w2)
  unfold msgV at k8
  have HB2 := hide hB2
  clear hx2 hB2
  go_wp2_with fail
  refine k8.out.mono ?_
  rintro e w3 ⟨rfl, rfl⟩
  go_wp2
  go_ret
  have hE := HB1.out.trans (HB2.out.mono HB1.out.size)
  exact ⟨rfl, hE.alloc hE.size _⟩

set_option maxRecDepth 100000 in
set_option maxHeartbeats 2000000 in
theorem law3_n_6t (sel kind search hops maxCost walk floor : Int) (ini snd frm rcv site mx mxs iniSite : ByteArray) (n0 : Int) (hF : F.answers w.tape) (he : w.cell? ⟨0, 0, none⟩ = some (.iface 131 (.pointer (some a)))) (h0 : 0 < w.heap.size) (ht : w.cell? a = some (.string t)) (ha : a.block < w.heap.size) (htab : Lib.TabIs Ybaz.prog w nT .u64 Lib.pow10Tab) (hidx : ∀ W, (Instr.index 26 (.agg #[.int .i64 0, .int .i64 1, .int .i64 2, .int .i64 4, .int .i64 7, .int .i64 8, .int .i64 10, .int .i64 3, .int .i64 5, .int .i64 6, .int .i64 9]) (.int .i64 ((wrap64 n0).tmod 11))).run Ybaz.prog W = .ok (.int .i64 6) W) (hz : ¬ (Int.tmod sel 4 = 0)) (recv : ∀ (w1 : World) (sb i q f : Nat), Base F w1 sb i q f ⟨#[115, 49]⟩ a t → Lib.TabIs Ybaz.prog w1 nT .u64 Lib.pow10Tab → Calls Ybaz.prog 7 #[.pointer (some ⟨sb, 0, none⟩), .agg (msgV 6 ini search snd frm rcv ⟨#[115, 49]⟩ hops mx mxs maxCost walk iniSite floor)] w1 fun e w' => ∃ v, e = .returned v ∧ Below w1.heap.size w1 w') (ref : ∀ w1, Calls Ybaz.prog 8 #[.string ⟨#[115, 49]⟩, .agg (msgV 6 ini search snd frm rcv ⟨#[115, 49]⟩ hops mx mxs maxCost walk iniSite floor)] w1 fun e w' => e = .returned (.bool false) ∧ w' = w1.alloc (.cells (msgV 6 ini search snd frm rcv ⟨#[115, 49]⟩ hops mx mxs maxCost walk iniSite floor) 25)) :
    Calls Ybaz.prog 3 #[.int .u8 n0, .int .u8 sel, .agg (msgV kind ini search snd frm rcv site hops mx mxs maxCost walk iniSite floor)] w fun e w' => e = .returned (.bool true) ∧ Below w.heap.size w w' := by
  have k6' := hide (newSite_any ⟨#[115, 49]⟩ (((w.alloc (.cells (msgV kind ini search snd frm rcv site hops mx mxs maxCost walk iniSite floor) 25)).alloc (.cells (msgV 6 ini search snd frm rcv ⟨#[115, 49]⟩ hops mx mxs maxCost walk iniSite floor) 25)).alloc (.cells #[.int .i64 0, .int .i64 1, .int .i64 2, .int .i64 4, .int .i64 7, .int .i64 8, .int .i64 10, .int .i64 3, .int .i64 5, .int .i64 6, .int .i64 9] 26)))
  have hA : Below w.heap.size w (((w.alloc (.cells (msgV kind ini search snd frm rcv site hops mx mxs maxCost walk iniSite floor) 25)).alloc (.cells (msgV 6 ini search snd frm rcv ⟨#[115, 49]⟩ hops mx mxs maxCost walk iniSite floor) 25)).alloc (.cells #[.int .i64 0, .int .i64 1, .int .i64 2, .int .i64 4, .int .i64 7, .int .i64 8, .int .i64 10, .int .i64 3, .int .i64 5, .int .i64 6, .int .i64 9] 26)) := (((Below.refl _ w).alloc (Nat.le_refl _) _).alloc (by simp) _).alloc (by simp; omega) _
  have HA := hide hA
  have HT := hide htab
  have HR := hide recv
  have HF := hide ref
  clear ref
  clear hA htab recv
  unfold msgV at k6' ⊢
  go_enter Ybaz.func3, Ybaz.ntmps3
  go_wp2_with fail
  refine (kinds5 _).mono ?_
  rintro e w1 ⟨rfl, rfl⟩
  unfold kinds11
  go_wp2_with fail
  refine k6'.out.mono ?_
  rintro e w1 ⟨rfl, hm⟩
  have hB1 : Below w.heap.size w w1 := HA.out.trans (hm.below.mono HA.out.size)
  have hx : w1.heap[w.heap.size + 1]? = some (.cells (msgV 6 ini search snd frm rcv ⟨#[115, 49]⟩ hops mx mxs maxCost walk iniSite floor) 25) := (hm.below.block _ (by simp)).trans ((heap_alloc_past _ _ (by simp)).trans (heap_alloc_at _ _ (by simp)))
  have hf := Fresh.of_made hm
  simp only [World.size_alloc] at hf
  have B1 : Base F w1 _ _ _ _ ⟨#[115, 49]⟩ a t := ⟨hf, by rw [hB1.tape]; exact hF, (hB1.cell (p := ⟨0, 0, none⟩) h0).trans he, Nat.lt_of_lt_of_le h0 hB1.size, (hB1.cell ha).trans ht, Nat.lt_of_lt_of_le ha hB1.size⟩
  have kR := hide (HR.out w1 _ _ _ _ B1 (Lib.tabBelow_of_tabIs HT.out w1 hB1))
  have HX := hide hx
  have m0 := cell_in hx 0
  have m1 := cell_in hx 1
  have m2 := cell_in hx 2
  have m3 := cell_in hx 3
  have m4 := cell_in hx 4
  have m5 := cell_in hx 5
  have m6 := cell_in hx 6
  have m7 := cell_in hx 7
  have m8 := cell_in hx 8
  have m9 := cell_in hx 9
  have m10 := cell_in hx 10
  have m11 := cell_in hx 11
  have m12 := cell_in hx 12
  have m13 := cell_in hx 13
  simp [msgV] at m0 m1 m2 m3 m4 m5 m6 m7 m8 m9 m10 m11 m12 m13
  have HB1 := hide hB1
  clear hm hf B1 hx hB1 HA HT HR k6' he ht ha hF hidx
  unfold msgV at kR
  go_wp2_with fail
  refine kR.out.mono ?_
  rintro e w2 ⟨v, rfl, hB2⟩
  have hx2 : w2.heap[w.heap.size + 1]? = some (.cells (msgV 6 ini search snd frm rcv ⟨#[115, 49]⟩ hops mx mxs maxCost walk iniSite floor) 25) := (hB2.block _ (lt_in HX.out)).trans HX.out
  clear m0 m1 m2 m3 m4 m5 m6 m7 m8 m9 m10 m11 m12 m13 kR
  have m0 := cell_in hx2 0
  have m1 := cell_in hx2 1
  have m2 := cell_in hx2 2
  have m3 := cell_in hx2 3
  have m4 := cell_in hx2 4
  have m5 := cell_in hx2 5
  have m6 := cell_in hx2 6
  have m7 := cell_in hx2 7
  have m8 := cell_in hx2 8
  have m9 := cell_in hx2 9
  have m10 := cell_in hx2 10
  have m11 := cell_in hx2 11
  have m12 := cell_in hx2 12
  have m13 := cell_in hx2 13
  simp [msgV] at m0 m1 m2 m3 m4 m5 m6 m7 m8 m9 m10 m11 m12 m13
  have k8 := hide (HF.out w2)
  unfold msgV at k8
  have HB2 := hide hB2
  clear hx2 hB2
  go_wp2_with fail
  refine k8.out.mono ?_
  rintro e w3 ⟨rfl, rfl⟩
  go_wp2
  go_ret
  have hE := HB1.out.trans (HB2.out.mono HB1.out.size)
  exact ⟨rfl, hE.alloc hE.size _⟩

end Go.Proofs.YbulkbviqGreatFmt
