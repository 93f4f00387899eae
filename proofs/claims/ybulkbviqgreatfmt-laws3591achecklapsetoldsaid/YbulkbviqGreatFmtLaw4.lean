/-
  LawS3591ACheckLapse: the walk.
-/
import Derived.Test.YbulkbviqGreatFmtRecv3
import Derived.Test.YbulkbviqGreatFmtRef5
import Derived.WalkKit
import Derived.WalkSpells
import Derived.WalkLawsBesides
import Derived.RegionTactic
import Derived.BigRegion
import Derived.WalkSmall
import Derived.Handy
set_option linter.unusedVariables false
namespace Go.Proofs.YbulkbviqGreatFmt
open Go.RowKit Go.ChangeMaps Go.Extern.Stop Go.Stop Go.Extern

/-- A fact that the walk's rules do not take for one of theirs. -/
structure Hid (p : Prop) : Prop where
  out : p
theorem hide {p : Prop} (h : p) : Hid p := ⟨h⟩

variable {F : Interp} {w : World} {a : Addr} {t : ByteArray}

set_option maxRecDepth 100000 in
set_option maxHeartbeats 2000000 in
theorem law4_z_refuse (sel kind search hops maxCost walk floor : Int) (ini snd frm rcv site mx mxs iniSite : ByteArray) (li : ini.size ≤ maxLen) (ls : snd.size ≤ maxLen) (lr : rcv.size ≤ maxLen) (lm : mx.size ≤ maxLen) (lt : iniSite.size ≤ maxLen)
    (hF : F.answers w.tape) (he : w.cell? ⟨0, 0, none⟩ = some (.iface 131 (.pointer (some a)))) (h0 : 0 < w.heap.size) (ht : w.cell? a = some (.string t)) (ha : a.block < w.heap.size)
    (hz : Int.tmod sel 4 = 0) (hr : refB 5 ⟨#[115, 49]⟩ site ini snd rcv search hops walk maxCost mx iniSite = true) :
    Calls Ybaz.prog 4 #[.int .u8 sel, .agg (msgV kind ini search snd frm rcv site hops mx mxs maxCost walk iniSite floor)] w fun e w' => e = .returned (.bool true) ∧ Below w.heap.size w w' := by
  have k6 := hide (newSite_any ⟨#[115, 49]⟩ ((w.alloc (.cells (msgV kind ini search snd frm rcv site hops mx mxs maxCost walk iniSite floor) 25)).alloc (.cells (msgV 5 ini search snd frm rcv site hops mx mxs maxCost walk iniSite floor) 25)))
  have hA : Below w.heap.size w ((w.alloc (.cells (msgV kind ini search snd frm rcv site hops mx mxs maxCost walk iniSite floor) 25)).alloc (.cells (msgV 5 ini search snd frm rcv site hops mx mxs maxCost walk iniSite floor) 25)) := ((Below.refl _ w).alloc (Nat.le_refl _) _).alloc (by simp) _
  have HA := hide hA
  clear hA
  unfold msgV at k6 ⊢
  go_enter Ybaz.func4, Ybaz.ntmps4
  go_wp2_with fail
  refine k6.out.mono ?_
  rintro e w1 ⟨rfl, hm⟩
  have hB1 : Below w.heap.size w w1 := HA.out.trans (hm.below.mono HA.out.size)
  have hx : w1.heap[w.heap.size + 1]? = some (.cells (msgV 5 ini search snd frm rcv site hops mx mxs maxCost walk iniSite floor) 25) := (hm.below.block _ (by simp)).trans (heap_alloc_at _ _ (by simp))
  have hf := Fresh.of_made hm
  simp only [World.size_alloc] at hf
  have B1 : Base F w1 _ _ _ _ ⟨#[115, 49]⟩ a t := ⟨hf, by rw [hB1.tape]; exact hF, (hB1.cell (p := ⟨0, 0, none⟩) h0).trans he, Nat.lt_of_lt_of_le h0 hB1.size, (hB1.cell ha).trans ht, Nat.lt_of_lt_of_le ha hB1.size⟩
  have B2 := B1.alloc (.cells (msgV 5 ini search snd frm rcv site hops mx mxs maxCost walk iniSite floor) 25)
  have key := chk5_refuse F ⟨#[115, 49]⟩ search hops maxCost walk floor ini snd frm rcv site mx mxs iniSite _ li ls lr lm lt _ a t B2.told B2.named (lt_in B2.fresh.site) B2.err B2.zero B2.txt B2.lt hr
  have kR := hide (receive_refuse 5 search hops maxCost walk floor ini snd frm rcv site mx mxs iniSite key)
  have HX := hide hx
  have m0 := cell_in hx 0
  have m1 := cell_in hx 1
  have m2 := cell_in hx 2
  have m3 := cell_in hx 3
  have m4 := cell_in hx 4
  have m5 := cell_in hx 5
  have m6 := cell_in hx 6
  have m7 := cell_in hx 7
  have m8 := cell_in hx 8
  have m9 := cell_in hx 9
  have m10 := cell_in hx 10
  have m11 := cell_in hx 11
  have m12 := cell_in hx 12
  have m13 := cell_in hx 13
  simp [msgV] at m0 m1 m2 m3 m4 m5 m6 m7 m8 m9 m10 m11 m12 m13
  have HB1 := hide hB1
  clear hm hf B1 B2 key hx hB1 HA k6 he ht ha hF
  unfold msgV at kR
  go_wp2_with fail
  refine kR.out.mono ?_
  rintro e w2 ⟨rfl, hB2⟩
  have hx2 : w2.heap[w.heap.size + 1]? = some (.cells (msgV 5 ini search snd frm rcv site hops mx mxs maxCost walk iniSite floor) 25) := (hB2.block _ (lt_in HX.out)).trans HX.out
  have k8 := hide (ref5 ⟨#[115, 49]⟩ search hops maxCost walk floor ini snd frm rcv site mx mxs iniSite w2 li ls lr lm lt)
  rw [hr] at k8
  clear m0 m1 m2 m3 m4 m5 m6 m7 m8 m9 m10 m11 m12 m13 kR hr
  have m0 := cell_in hx2 0
  have m1 := cell_in hx2 1
  have m2 := cell_in hx2 2
  have m3 := cell_in hx2 3
  have m4 := cell_in hx2 4
  have m5 := cell_in hx2 5
  have m6 := cell_in hx2 6
  have m7 := cell_in hx2 7
  have m8 := cell_in hx2 8
  have m9 := cell_in hx2 9
  have m10 := cell_in hx2 10
  have m11 := cell_in hx2 11
  have m12 := cell_in hx2 12
  have m13 := cell_in hx2 13
  simp [msgV] at m0 m1 m2 m3 m4 m5 m6 m7 m8 m9 m10 m11 m12 m13
  have HX2 := hide hx2
  have HB2 := hide hB2
  clear hx2 hB2
  unfold msgV at k8
  go_wp2_with fail
  refine k8.out.mono ?_
  rintro e w3 ⟨rfl, rfl⟩
  go_wp2
  go_ret
  have hE := HB1.out.trans (HB2.out.mono HB1.out.size)
  exact ⟨rfl, hE.alloc hE.size _⟩

set_option maxRecDepth 100000 in
set_option maxHeartbeats 2000000 in
theorem law4_z_take (sel kind search hops maxCost walk floor : Int) (ini snd frm rcv site mx mxs iniSite : ByteArray) (li : ini.size ≤ maxLen) (ls : snd.size ≤ maxLen) (lr : rcv.size ≤ maxLen) (lm : mx.size ≤ maxLen) (lt : iniSite.size ≤ maxLen)
    (hF : F.answers w.tape) (he : w.cell? ⟨0, 0, none⟩ = some (.iface 131 (.pointer (some a)))) (h0 : 0 < w.heap.size) (ht : w.cell? a = some (.string t)) (ha : a.block < w.heap.size)
    (hz : Int.tmod sel 4 = 0) (hr : refB 5 ⟨#[115, 49]⟩ site ini snd rcv search hops walk maxCost mx iniSite = false) :
    Calls Ybaz.prog 4 #[.int .u8 sel, .agg (msgV kind ini search snd frm rcv site hops mx mxs maxCost walk iniSite floor)] w fun e w' => e = .returned (.bool true) ∧ Below w.heap.size w w' := by
  have k6 := hide (newSite_any ⟨#[115, 49]⟩ ((w.alloc (.cells (msgV kind ini search snd frm rcv site hops mx mxs maxCost walk iniSite floor) 25)).alloc (.cells (msgV 5 ini search snd frm rcv site hops mx mxs maxCost walk iniSite floor) 25)))
  have hA : Below w.heap.size w ((w.alloc (.cells (msgV kind ini search snd frm rcv site hops mx mxs maxCost walk iniSite floor) 25)).alloc (.cells (msgV 5 ini search snd frm rcv site hops mx mxs maxCost walk iniSite floor) 25)) := ((Below.refl _ w).alloc (Nat.le_refl _) _).alloc (by simp) _
  have HA := hide hA
  clear hA
  unfold msgV at k6 ⊢
  go_enter Ybaz.func4, Ybaz.ntmps4
  go_wp2_with fail
  refine k6.out.mono ?_
  rintro e w1 ⟨rfl, hm⟩
  have hB1 : Below w.heap.size w w1 := HA.out.trans (hm.below.mono HA.out.size)
  have hx : w1.heap[w.heap.size + 1]? = some (.cells (msgV 5 ini search snd frm rcv site hops mx mxs maxCost walk iniSite floor) 25) := (hm.below.block _ (by simp)).trans (heap_alloc_at _ _ (by simp))
  have hf := Fresh.of_made hm
  simp only [World.size_alloc] at hf
  have B1 : Base F w1 _ _ _ _ ⟨#[115, 49]⟩ a t := ⟨hf, by rw [hB1.tape]; exact hF, (hB1.cell (p := ⟨0, 0, none⟩) h0).trans he, Nat.lt_of_lt_of_le h0 hB1.size, (hB1.cell ha).trans ht, Nat.lt_of_lt_of_le ha hB1.size⟩
  have B2 := B1.alloc (.cells (msgV 5 ini search snd frm rcv site hops mx mxs maxCost walk iniSite floor) 25)
  have key := chk5_take F ⟨#[115, 49]⟩ search hops maxCost walk floor ini snd frm rcv site mx mxs iniSite _ li ls lr lm lt _ a t B2.told B2.named (lt_in B2.fresh.site) B2.err B2.zero B2.txt B2.lt hr
  have kR := hide (receive5_take search hops maxCost walk floor ini snd frm rcv site mx mxs iniSite hf key)
  have HX := hide hx
  have m0 := cell_in hx 0
  have m1 := cell_in hx 1
  have m2 := cell_in hx 2
  have m3 := cell_in hx 3
  have m4 := cell_in hx 4
  have m5 := cell_in hx 5
  have m6 := cell_in hx 6
  have m7 := cell_in hx 7
  have m8 := cell_in hx 8
  have m9 := cell_in hx 9
  have m10 := cell_in hx 10
  have m11 := cell_in hx 11
  have m12 := cell_in hx 12
  have m13 := cell_in hx 13
  simp [msgV] at m0 m1 m2 m3 m4 m5 m6 m7 m8 m9 m10 m11 m12 m13
  have HB1 := hide hB1
  clear hm hf B1 B2 key hx hB1 HA k6 he ht ha hF
  unfold msgV at kR
  go_wp2_with fail
  refine kR.out.mono ?_
  rintro e w2 ⟨k, rfl, hk, hk2, hB2⟩
  have hx2 : w2.heap[w.heap.size + 1]? = some (.cells (msgV 5 ini search snd frm rcv site hops mx mxs maxCost walk iniSite floor) 25) := (hB2.block _ (lt_in HX.out)).trans HX.out
  have k8 := hide (ref5 ⟨#[115, 49]⟩ search hops maxCost walk floor ini snd frm rcv site mx mxs iniSite w2 li ls lr lm lt)
  rw [hr] at k8
  clear m0 m1 m2 m3 m4 m5 m6 m7 m8 m9 m10 m11 m12 m13 kR hr
  have m0 := cell_in hx2 0
  have m1 := cell_in hx2 1
  have m2 := cell_in hx2 2
  have m3 := cell_in hx2 3
  have m4 := cell_in hx2 4
  have m5 := cell_in hx2 5
  have m6 := cell_in hx2 6
  have m7 := cell_in hx2 7
  have m8 := cell_in hx2 8
  have m9 := cell_in hx2 9
  have m10 := cell_in hx2 10
  have m11 := cell_in hx2 11
  have m12 := cell_in hx2 12
  have m13 := cell_in hx2 13
  simp [msgV] at m0 m1 m2 m3 m4 m5 m6 m7 m8 m9 m10 m11 m12 m13
  have HX2 := hide hx2
  have HB2 := hide hB2
  clear hx2 hB2
  unfold msgV at k8
  go_wp2_with fail
  refine k8.out.mono ?_
  rintro e w3 ⟨rfl, rfl⟩
  have hk3 : (w2.alloc (.cells (msgV 5 ini search snd frm rcv site hops mx mxs maxCost walk iniSite floor) 25)).heap[k]? = some (.cells (msgV 6 ini search rcv ⟨#[115, 49]⟩ snd frm 0 ⟨#[]⟩ ⟨#[]⟩ 0 0 ⟨#[]⟩ 0) 25) := (heap_alloc_past _ _ (lt_in hk2)).trans hk2
  have hk4 := lt_in hk3
  have hk5 := lt_in hk2
  have hxl := lt_in HX2.out
  have hxm : w.heap.size + 1 < w2.heap.size + 1 := by omega
  have n0 := cell_in hk3 0
  have n1 := cell_in hk3 1
  have n2 := cell_in hk3 2
  have n3 := cell_in hk3 3
  have n4 := cell_in hk3 4
  have n5 := cell_in hk3 5
  have n6 := cell_in hk3 6
  have n7 := cell_in hk3 7
  have n8 := cell_in hk3 8
  have n9 := cell_in hk3 9
  have n10 := cell_in hk3 10
  have n11 := cell_in hk3 11
  have n12 := cell_in hk3 12
  have n13 := cell_in hk3 13
  simp [msgV] at n0 n1 n2 n3 n4 n5 n6 n7 n8 n9 n10 n11 n12 n13
  clear hk2 hk3
  go_wp2
  go_ret
  have hE := HB1.out.trans (HB2.out.mono HB1.out.size)
  exact ⟨rfl, (hE.alloc hE.size _).alloc (Nat.le_trans hE.size (by simp)) _⟩

set_option maxRecDepth 100000 in
set_option maxHeartbeats 2000000 in
theorem law4_n_refuse (sel kind search hops maxCost walk floor : Int) (ini snd frm rcv site mx mxs iniSite : ByteArray) (li : ini.size ≤ maxLen) (ls : snd.size ≤ maxLen) (lr : rcv.size ≤ maxLen) (lm : mx.size ≤ maxLen) (lt : iniSite.size ≤ maxLen)
    (hF : F.answers w.tape) (he : w.cell? ⟨0, 0, none⟩ = some (.iface 131 (.pointer (some a)))) (h0 : 0 < w.heap.size) (ht : w.cell? a = some (.string t)) (ha : a.block < w.heap.size)
    (hz : ¬ (Int.tmod sel 4 = 0)) (hr : refB 5 ⟨#[115, 49]⟩ ⟨#[115, 49]⟩ ini snd rcv search hops walk maxCost mx iniSite = true) :
    Calls Ybaz.prog 4 #[.int .u8 sel, .agg (msgV kind ini search snd frm rcv site hops mx mxs maxCost walk iniSite floor)] w fun e w' => e = .returned (.bool true) ∧ Below w.heap.size w w' := by
  have k6 := hide (newSite_any ⟨#[115, 49]⟩ ((w.alloc (.cells (msgV kind ini search snd frm rcv site hops mx mxs maxCost walk iniSite floor) 25)).alloc (.cells (msgV 5 ini search snd frm rcv ⟨#[115, 49]⟩ hops mx mxs maxCost walk iniSite floor) 25)))
  have hA : Below w.heap.size w ((w.alloc (.cells (msgV kind ini search snd frm rcv site hops mx mxs maxCost walk iniSite floor) 25)).alloc (.cells (msgV 5 ini search snd frm rcv ⟨#[115, 49]⟩ hops mx mxs maxCost walk iniSite floor) 25)) := ((Below.refl _ w).alloc (Nat.le_refl _) _).alloc (by simp) _
  have HA := hide hA
  clear hA
  unfold msgV at k6 ⊢
  go_enter Ybaz.func4, Ybaz.ntmps4
  go_wp2_with fail
  refine k6.out.mono ?_
  rintro e w1 ⟨rfl, hm⟩
  have hB1 : Below w.heap.size w w1 := HA.out.trans (hm.below.mono HA.out.size)
  have hx : w1.heap[w.heap.size + 1]? = some (.cells (msgV 5 ini search snd frm rcv ⟨#[115, 49]⟩ hops mx mxs maxCost walk iniSite floor) 25) := (hm.below.block _ (by simp)).trans (heap_alloc_at _ _ (by simp))
  have hf := Fresh.of_made hm
  simp only [World.size_alloc] at hf
  have B1 : Base F w1 _ _ _ _ ⟨#[115, 49]⟩ a t := ⟨hf, by rw [hB1.tape]; exact hF, (hB1.cell (p := ⟨0, 0, none⟩) h0).trans he, Nat.lt_of_lt_of_le h0 hB1.size, (hB1.cell ha).trans ht, Nat.lt_of_lt_of_le ha hB1.size⟩
  have B2 := B1.alloc (.cells (msgV 5 ini search snd frm rcv ⟨#[115, 49]⟩ hops mx mxs maxCost walk iniSite floor) 25)
  have key := chk5_refuse F ⟨#[115, 49]⟩ search hops maxCost walk floor ini snd frm rcv ⟨#[115, 49]⟩ mx mxs iniSite _ li ls lr lm lt _ a t B2.told B2.named (lt_in B2.fresh.site) B2.err B2.zero B2.txt B2.lt hr
  have kR := hide (receive_refuse 5 search hops maxCost walk floor ini snd frm rcv ⟨#[115, 49]⟩ mx mxs iniSite key)
  have HX := hide hx
  have m0 := cell_in hx 0
  have m1 := cell_in hx 1
  have m2 := cell_in hx 2
  have m3 := cell_in hx 3
  have m4 := cell_in hx 4
  have m5 := cell_in hx 5
  have m6 := cell_in hx 6
  have m7 := cell_in hx 7
  have m8 := cell_in hx 8
  have m9 := cell_in hx 9
  have m10 := cell_in hx 10
  have m11 := cell_in hx 11
  have m12 := cell_in hx 12
  have m13 := cell_in hx 13
  simp [msgV] at m0 m1 m2 m3 m4 m5 m6 m7 m8 m9 m10 m11 m12 m13
  have HB1 := hide hB1
  clear hm hf B1 B2 key hx hB1 HA k6 he ht ha hF
  unfold msgV at kR
  go_wp2_with fail
  refine kR.out.mono ?_
  rintro e w2 ⟨rfl, hB2⟩
  have hx2 : w2.heap[w.heap.size + 1]? = some (.cells (msgV 5 ini search snd frm rcv ⟨#[115, 49]⟩ hops mx mxs maxCost walk iniSite floor) 25) := (hB2.block _ (lt_in HX.out)).trans HX.out
  have k8 := hide (ref5 ⟨#[115, 49]⟩ search hops maxCost walk floor ini snd frm rcv ⟨#[115, 49]⟩ mx mxs iniSite w2 li ls lr lm lt)
  rw [hr] at k8
  clear m0 m1 m2 m3 m4 m5 m6 m7 m8 m9 m10 m11 m12 m13 kR hr
  have m0 := cell_in hx2 0
  have m1 := cell_in hx2 1
  have m2 := cell_in hx2 2
  have m3 := cell_in hx2 3
  have m4 := cell_in hx2 4
  have m5 := cell_in hx2 5
  have m6 := cell_in hx2 6
  have m7 := cell_in hx2 7
  have m8 := cell_in hx2 8
  have m9 := cell_in hx2 9
  have m10 := cell_in hx2 10
  have m11 := cell_in hx2 11
  have m12 := cell_in hx2 12
  have m13 := cell_in hx2 13
  simp [msgV] at m0 m1 m2 m3 m4 m5 m6 m7 m8 m9 m10 m11 m12 m13
  have HX2 := hide hx2
  have HB2 := hide hB2
  clear hx2 hB2
  unfold msgV at k8
  go_wp2_with fail
  refine k8.out.mono ?_
  rintro e w3 ⟨rfl, rfl⟩
  go_wp2
  go_ret
  have hE := HB1.out.trans (HB2.out.mono HB1.out.size)
  exact ⟨rfl, hE.alloc hE.size _⟩

set_option maxRecDepth 100000 in
set_option maxHeartbeats 2000000 in
theorem law4_n_take (sel kind search hops maxCost walk floor : Int) (ini snd frm rcv site mx mxs iniSite : ByteArray) (li : ini.size ≤ maxLen) (ls : snd.size ≤ maxLen) (lr : rcv.size ≤ maxLen) (lm : mx.size ≤ maxLen) (lt : iniSite.size ≤ maxLen)
    (hF : F.answers w.tape) (he : w.cell? ⟨0, 0, none⟩ = some (.iface 131 (.pointer (some a)))) (h0 : 0 < w.heap.size) (ht : w.cell? a = some (.string t)) (ha : a.block < w.heap.size)
    (hz : ¬ (Int.tmod sel 4 = 0)) (hr : refB 5 ⟨#[115, 49]⟩ ⟨#[115, 49]⟩ ini snd rcv search hops walk maxCost mx iniSite = false) :
    Calls Ybaz.prog 4 #[.int .u8 sel, .agg (msgV kind ini search snd frm rcv site hops mx mxs maxCost walk iniSite floor)] w fun e w' => e = .returned (.bool true) ∧ Below w.heap.size w w' := by
  have k6 := hide (newSite_any ⟨#[115, 49]⟩ ((w.alloc (.cells (msgV kind ini search snd frm rcv site hops mx mxs maxCost walk iniSite floor) 25)).alloc (.cells (msgV 5 ini search snd frm rcv ⟨#[115, 49]⟩ hops mx mxs maxCost walk iniSite floor) 25)))
  have hA : Below w.heap.size w ((w.alloc (.cells (msgV kind ini search snd frm rcv site hops mx mxs maxCost walk iniSite floor) 25)).alloc (.cells (msgV 5 ini search snd frm rcv ⟨#[115, 49]⟩ hops mx mxs maxCost walk iniSite floor) 25)) := ((Below.refl _ w).alloc (Nat.le_refl _) _).alloc (by simp) _
  have HA := hide hA
  clear hA
  unfold msgV at k6 ⊢
  go_enter Ybaz.func4, Ybaz.ntmps4
  go_wp2_with fail
  refine k6.out.mono ?_
  rintro e w1 ⟨rfl, hm⟩
  have hB1 : Below w.heap.size w w1 := HA.out.trans (hm.below.mono HA.out.size)
  have hx : w1.heap[w.heap.size + 1]? = some (.cells (msgV 5 ini search snd frm rcv ⟨#[115, 49]⟩ hops mx mxs maxCost walk iniSite floor) 25) := (hm.below.block _ (by simp)).trans (heap_alloc_at _ _ (by simp))
  have hf := Fresh.of_made hm
  simp only [World.size_alloc] at hf
  have B1 : Base F w1 _ _ _ _ ⟨#[115, 49]⟩ a t := ⟨hf, by rw [hB1.tape]; exact hF, (hB1.cell (p := ⟨0, 0, none⟩) h0).trans he, Nat.lt_of_lt_of_le h0 hB1.size, (hB1.cell ha).trans ht, Nat.lt_of_lt_of_le ha hB1.size⟩
  have B2 := B1.alloc (.cells (msgV 5 ini search snd frm rcv ⟨#[115, 49]⟩ hops mx mxs maxCost walk iniSite floor) 25)
  have key := chk5_take F ⟨#[115, 49]⟩ search hops maxCost walk floor ini snd frm rcv ⟨#[115, 49]⟩ mx mxs iniSite _ li ls lr lm lt _ a t B2.told B2.named (lt_in B2.fresh.site) B2.err B2.zero B2.txt B2.lt hr
  have kR := hide (receive5_take search hops maxCost walk floor ini snd frm rcv ⟨#[115, 49]⟩ mx mxs iniSite hf key)
  have HX := hide hx
  have m0 := cell_in hx 0
  have m1 := cell_in hx 1
  have m2 := cell_in hx 2
  have m3 := cell_in hx 3
  have m4 := cell_in hx 4
  have m5 := cell_in hx 5
  have m6 := cell_in hx 6
  have m7 := cell_in hx 7
  have m8 := cell_in hx 8
  have m9 := cell_in hx 9
  have m10 := cell_in hx 10
  have m11 := cell_in hx 11
  have m12 := cell_in hx 12
  have m13 := cell_in hx 13
  simp [msgV] at m0 m1 m2 m3 m4 m5 m6 m7 m8 m9 m10 m11 m12 m13
  have HB1 := hide hB1
  clear hm hf B1 B2 key hx hB1 HA k6 he ht ha hF
  unfold msgV at kR
  go_wp2_with fail
  refine kR.out.mono ?_
  rintro e w2 ⟨k, rfl, hk, hk2, hB2⟩
  have hx2 : w2.heap[w.heap.size + 1]? = some (.cells (msgV 5 ini search snd frm rcv ⟨#[115, 49]⟩ hops mx mxs maxCost walk iniSite floor) 25) := (hB2.block _ (lt_in HX.out)).trans HX.out
  have k8 := hide (ref5 ⟨#[115, 49]⟩ search hops maxCost walk floor ini snd frm rcv ⟨#[115, 49]⟩ mx mxs iniSite w2 li ls lr lm lt)
  rw [hr] at k8
  clear m0 m1 m2 m3 m4 m5 m6 m7 m8 m9 m10 m11 m12 m13 kR hr
  have m0 := cell_in hx2 0
  have m1 := cell_in hx2 1
  have m2 := cell_in hx2 2
  have m3 := cell_in hx2 3
  have m4 := cell_in hx2 4
  have m5 := cell_in hx2 5
  have m6 := cell_in hx2 6
  have m7 := cell_in hx2 7
  have m8 := cell_in hx2 8
  have m9 := cell_in hx2 9
  have m10 := cell_in hx2 10
  have m11 := cell_in hx2 11
  have m12 := cell_in hx2 12
  have m13 := cell_in hx2 13
  simp [msgV] at m0 m1 m2 m3 m4 m5 m6 m7 m8 m9 m10 m11 m12 m13
  have HX2 := hide hx2
  have HB2 := hide hB2
  clear hx2 hB2
  unfold msgV at k8
  go_wp2_with fail
  refine k8.out.mono ?_
  rintro e w3 ⟨rfl, rfl⟩
  have hk3 : (w2.alloc (.cells (msgV 5 ini search snd frm rcv ⟨#[115, 49]⟩ hops mx mxs maxCost walk iniSite floor) 25)).heap[k]? = some (.cells (msgV 6 ini search rcv ⟨#[115, 49]⟩ snd frm 0 ⟨#[]⟩ ⟨#[]⟩ 0 0 ⟨#[]⟩ 0) 25) := (heap_alloc_past _ _ (lt_in hk2)).trans hk2
  have hk4 := lt_in hk3
  have hk5 := lt_in hk2
  have hxl := lt_in HX2.out
  have hxm : w.heap.size + 1 < w2.heap.size + 1 := by omega
  have n0 := cell_in hk3 0
  have n1 := cell_in hk3 1
  have n2 := cell_in hk3 2
  have n3 := cell_in hk3 3
  have n4 := cell_in hk3 4
  have n5 := cell_in hk3 5
  have n6 := cell_in hk3 6
  have n7 := cell_in hk3 7
  have n8 := cell_in hk3 8
  have n9 := cell_in hk3 9
  have n10 := cell_in hk3 10
  have n11 := cell_in hk3 11
  have n12 := cell_in hk3 12
  have n13 := cell_in hk3 13
  simp [msgV] at n0 n1 n2 n3 n4 n5 n6 n7 n8 n9 n10 n11 n12 n13
  clear hk2 hk3
  go_wp2
  go_ret
  have hE := HB1.out.trans (HB2.out.mono HB1.out.size)
  exact ⟨rfl, (hE.alloc hE.size _).alloc (Nat.le_trans hE.size (by simp)) _⟩

theorem law4_any (sel kind search hops maxCost walk floor : Int) (ini snd frm rcv site mx mxs iniSite : ByteArray) (li : ini.size ≤ maxLen) (ls : snd.size ≤ maxLen) (lr : rcv.size ≤ maxLen) (lm : mx.size ≤ maxLen) (lt : iniSite.size ≤ maxLen)
    (hF : F.answers w.tape) (he : w.cell? ⟨0, 0, none⟩ = some (.iface 131 (.pointer (some a)))) (h0 : 0 < w.heap.size) (ht : w.cell? a = some (.string t)) (ha : a.block < w.heap.size) :
    Calls Ybaz.prog 4 #[.int .u8 sel, .agg (msgV kind ini search snd frm rcv site hops mx mxs maxCost walk iniSite floor)] w fun e w' => e = .returned (.bool true) ∧ Below w.heap.size w w' := by
  by_cases hz : Int.tmod sel 4 = 0
  · cases hr : refB 5 ⟨#[115, 49]⟩ site ini snd rcv search hops walk maxCost mx iniSite with
    | true => exact law4_z_refuse sel kind search hops maxCost walk floor ini snd frm rcv site mx mxs iniSite li ls lr lm lt hF he h0 ht ha hz hr
    | false => exact law4_z_take sel kind search hops maxCost walk floor ini snd frm rcv site mx mxs iniSite li ls lr lm lt hF he h0 ht ha hz hr
  · cases hr : refB 5 ⟨#[115, 49]⟩ ⟨#[115, 49]⟩ ini snd rcv search hops walk maxCost mx iniSite with
    | true => exact law4_n_refuse sel kind search hops maxCost walk floor ini snd frm rcv site mx mxs iniSite li ls lr lm lt hF he h0 ht ha hz hr
    | false => exact law4_n_take sel kind search hops maxCost walk floor ini snd frm rcv site mx mxs iniSite li ls lr lm lt hF he h0 ht ha hz hr

end Go.Proofs.YbulkbviqGreatFmt
