/-
  Receive: what is taken at each other kind.
-/
import Derived.Test.YbulkbviqGreatFmtRecv4
import Derived.WalkKit
import Derived.WalkSpells
import Derived.RegionTactic
import Derived.BigRegion
import Derived.BigQuiet
import Derived.Deep.QuietTactic
import Derived.WalkSmall
set_option linter.unusedVariables false
namespace Go.Proofs.YbulkbviqGreatFmt
open Go.RowKit Go.ChangeMaps

variable {w : World} {sb i q f : Nat} {name : ByteArray}

set_option maxRecDepth 100000 in
set_option maxHeartbeats 1000000 in
theorem receive3_take (search hops maxCost walk floor : Int) (ini snd frm rcv site mx mxs iniSite : ByteArray) (h : Fresh w sb i q f name) 
    (key : Calls Ybaz.prog 9 #[.pointer (some ⟨sb, 0, none⟩), .agg (msgV 3 ini search snd frm rcv site hops mx mxs maxCost walk iniSite floor)] (w.alloc (.cells (msgV 3 ini search snd frm rcv site hops mx mxs maxCost walk iniSite floor) 25))
      fun e w' => e = .returned .nilIface ∧ Below (w.alloc (.cells (msgV 3 ini search snd frm rcv site hops mx mxs maxCost walk iniSite floor) 25)).heap.size (w.alloc (.cells (msgV 3 ini search snd frm rcv site hops mx mxs maxCost walk iniSite floor) 25)) w') :
    Calls Ybaz.prog 7 #[.pointer (some ⟨sb, 0, none⟩), .agg (msgV 3 ini search snd frm rcv site hops mx mxs maxCost walk iniSite floor)] w fun e w' => e = .returned (.slice none 0 0) ∧ Below w.heap.size w w' := by
  unfold msgV at key
  go_enter Ybaz.func7, Ybaz.ntmps7
  unfold msgV
  go_wp2_with fail
  refine key.mono ?_
  rintro e w1 ⟨rfl, hB⟩
  have hA : Below w.heap.size w (w.alloc (.cells (msgV 3 ini search snd frm rcv site hops mx mxs maxCost walk iniSite floor) 25)) := (Below.refl _ w).alloc (Nat.le_refl _) _
  have hB1 : Below w.heap.size w w1 := hA.trans (hB.mono (by simp))
  have hx : w1.heap[w.heap.size]? = some (.cells (msgV 3 ini search snd frm rcv site hops mx mxs maxCost walk iniSite floor) 25) := (hB.block _ (by simp)).trans (heap_alloc_at _ _ rfl)
  have h1 := h.below hB1
  have c7 := cell_in h1.site 7
  have c1 := cell_in h1.site 1
  simp [siteCells] at c7 c1
  have k2 := notice_new 3 search hops maxCost walk floor ini snd frm rcv site mx mxs iniSite h1
  unfold msgV at k2
  have m0 := cell_in hx 0
  have m1 := cell_in hx 1
  have m2 := cell_in hx 2
  have m3 := cell_in hx 3
  have m4 := cell_in hx 4
  have m5 := cell_in hx 5
  have m6 := cell_in hx 6
  have m7 := cell_in hx 7
  have m8 := cell_in hx 8
  have m9 := cell_in hx 9
  have m10 := cell_in hx 10
  have m11 := cell_in hx 11
  have m12 := cell_in hx 12
  have m13 := cell_in hx 13
  simp [msgV] at m0 m1 m2 m3 m4 m5 m6 m7 m8 m9 m10 m11 m12 m13
  have l1 := lt_in h1.site
  have l2 := lt_in hx
  clear hB key hA hx h
  go_wp2_with fail
  refine k2.mono ?_
  rintro e w2 ⟨rfl, hB2⟩
  go_wp2
  go_ret
  exact ⟨rfl, hB1.trans (hB2.mono hB1.size)⟩

set_option maxRecDepth 100000 in
set_option maxHeartbeats 1000000 in
theorem receive6_take (search hops maxCost walk floor : Int) (ini snd frm rcv site mx mxs iniSite : ByteArray) (h : Fresh w sb i q f name) 
    (key : Calls Ybaz.prog 9 #[.pointer (some ⟨sb, 0, none⟩), .agg (msgV 6 ini search snd frm rcv site hops mx mxs maxCost walk iniSite floor)] (w.alloc (.cells (msgV 6 ini search snd frm rcv site hops mx mxs maxCost walk iniSite floor) 25))
      fun e w' => e = .returned .nilIface ∧ Below (w.alloc (.cells (msgV 6 ini search snd frm rcv site hops mx mxs maxCost walk iniSite floor) 25)).heap.size (w.alloc (.cells (msgV 6 ini search snd frm rcv site hops mx mxs maxCost walk iniSite floor) 25)) w') :
    Calls Ybaz.prog 7 #[.pointer (some ⟨sb, 0, none⟩), .agg (msgV 6 ini search snd frm rcv site hops mx mxs maxCost walk iniSite floor)] w fun e w' => e = .returned (.slice none 0 0) ∧ Below w.heap.size w w' := by
  unfold msgV at key
  go_enter Ybaz.func7, Ybaz.ntmps7
  unfold msgV
  go_wp2_with fail
  refine key.mono ?_
  rintro e w1 ⟨rfl, hB⟩
  have hA : Below w.heap.size w (w.alloc (.cells (msgV 6 ini search snd frm rcv site hops mx mxs maxCost walk iniSite floor) 25)) := (Below.refl _ w).alloc (Nat.le_refl _) _
  have hB1 : Below w.heap.size w w1 := hA.trans (hB.mono (by simp))
  have hx : w1.heap[w.heap.size]? = some (.cells (msgV 6 ini search snd frm rcv site hops mx mxs maxCost walk iniSite floor) 25) := (hB.block _ (by simp)).trans (heap_alloc_at _ _ rfl)
  have h1 := h.below hB1
  have c7 := cell_in h1.site 7
  have c1 := cell_in h1.site 1
  simp [siteCells] at c7 c1
  have k2 := lapse_new 6 search hops maxCost walk floor ini snd frm rcv site mx mxs iniSite h1
  unfold msgV at k2
  have m0 := cell_in hx 0
  have m1 := cell_in hx 1
  have m2 := cell_in hx 2
  have m3 := cell_in hx 3
  have m4 := cell_in hx 4
  have m5 := cell_in hx 5
  have m6 := cell_in hx 6
  have m7 := cell_in hx 7
  have m8 := cell_in hx 8
  have m9 := cell_in hx 9
  have m10 := cell_in hx 10
  have m11 := cell_in hx 11
  have m12 := cell_in hx 12
  have m13 := cell_in hx 13
  simp [msgV] at m0 m1 m2 m3 m4 m5 m6 m7 m8 m9 m10 m11 m12 m13
  have l1 := lt_in h1.site
  have l2 := lt_in hx
  clear hB key hA hx h
  go_wp2_with fail
  refine k2.mono ?_
  rintro e w2 ⟨rfl, hB2⟩
  go_wp2
  go_ret
  exact ⟨rfl, hB1.trans (hB2.mono hB1.size)⟩

set_option maxRecDepth 100000 in
set_option maxHeartbeats 1000000 in
theorem receive9_take (search hops maxCost walk floor : Int) (ini snd frm rcv site mx mxs iniSite : ByteArray) (h : Fresh w sb i q f name) 
    (key : Calls Ybaz.prog 9 #[.pointer (some ⟨sb, 0, none⟩), .agg (msgV 9 ini search snd frm rcv site hops mx mxs maxCost walk iniSite floor)] (w.alloc (.cells (msgV 9 ini search snd frm rcv site hops mx mxs maxCost walk iniSite floor) 25))
      fun e w' => e = .returned .nilIface ∧ Below (w.alloc (.cells (msgV 9 ini search snd frm rcv site hops mx mxs maxCost walk iniSite floor) 25)).heap.size (w.alloc (.cells (msgV 9 ini search snd frm rcv site hops mx mxs maxCost walk iniSite floor) 25)) w') :
    Calls Ybaz.prog 7 #[.pointer (some ⟨sb, 0, none⟩), .agg (msgV 9 ini search snd frm rcv site hops mx mxs maxCost walk iniSite floor)] w fun e w' => e = .returned (.slice none 0 0) ∧ Below w.heap.size w w' := by
  unfold msgV at key
  go_enter Ybaz.func7, Ybaz.ntmps7
  unfold msgV
  go_wp2_with fail
  refine key.mono ?_
  rintro e w1 ⟨rfl, hB⟩
  have hA : Below w.heap.size w (w.alloc (.cells (msgV 9 ini search snd frm rcv site hops mx mxs maxCost walk iniSite floor) 25)) := (Below.refl _ w).alloc (Nat.le_refl _) _
  have hB1 : Below w.heap.size w w1 := hA.trans (hB.mono (by simp))
  have hx : w1.heap[w.heap.size]? = some (.cells (msgV 9 ini search snd frm rcv site hops mx mxs maxCost walk iniSite floor) 25) := (hB.block _ (by simp)).trans (heap_alloc_at _ _ rfl)
  have h1 := h.below hB1
  have c7 := cell_in h1.site 7
  have c1 := cell_in h1.site 1
  simp [siteCells] at c7 c1
  have k2 := settlement_new 9 search hops maxCost walk floor ini snd frm rcv site mx mxs iniSite h1
  unfold msgV at k2
  have m0 := cell_in hx 0
  have m1 := cell_in hx 1
  have m2 := cell_in hx 2
  have m3 := cell_in hx 3
  have m4 := cell_in hx 4
  have m5 := cell_in hx 5
  have m6 := cell_in hx 6
  have m7 := cell_in hx 7
  have m8 := cell_in hx 8
  have m9 := cell_in hx 9
  have m10 := cell_in hx 10
  have m11 := cell_in hx 11
  have m12 := cell_in hx 12
  have m13 := cell_in hx 13
  simp [msgV] at m0 m1 m2 m3 m4 m5 m6 m7 m8 m9 m10 m11 m12 m13
  have l1 := lt_in h1.site
  have l2 := lt_in hx
  clear hB key hA hx h
  go_wp2_with fail
  refine k2.mono ?_
  rintro e w2 ⟨rfl, hB2⟩
  go_wp2
  go_ret
  exact ⟨rfl, hB1.trans (hB2.mono hB1.size)⟩

set_option maxRecDepth 100000 in
set_option maxHeartbeats 1000000 in
theorem receiveS_take (kd : Int) (search hops maxCost walk floor : Int) (ini snd frm rcv site mx mxs iniSite : ByteArray) (h : Fresh w sb i q f name) (k3 : (kd == 3) = false) (k5 : (kd == 5) = false) (k6 : (kd == 6) = false) (k9 : (kd == 9) = false) (md : Int) (k15 : ∀ w, Calls Ybaz.prog 15 #[.int .i64 kd] w fun e w' => e = .returned (.tuple #[.int .i64 md, .bool true]) ∧ w' = w)
    (key : Calls Ybaz.prog 9 #[.pointer (some ⟨sb, 0, none⟩), .agg (msgV kd ini search snd frm rcv site hops mx mxs maxCost walk iniSite floor)] (w.alloc (.cells (msgV kd ini search snd frm rcv site hops mx mxs maxCost walk iniSite floor) 25))
      fun e w' => e = .returned .nilIface ∧ Below (w.alloc (.cells (msgV kd ini search snd frm rcv site hops mx mxs maxCost walk iniSite floor) 25)).heap.size (w.alloc (.cells (msgV kd ini search snd frm rcv site hops mx mxs maxCost walk iniSite floor) 25)) w') :
    Calls Ybaz.prog 7 #[.pointer (some ⟨sb, 0, none⟩), .agg (msgV kd ini search snd frm rcv site hops mx mxs maxCost walk iniSite floor)] w fun e w' => e = .returned (.slice none 0 0) ∧ Below w.heap.size w w' := by
  unfold msgV at key
  go_enter Ybaz.func7, Ybaz.ntmps7
  unfold msgV
  go_wp2_with fail
  refine key.mono ?_
  rintro e w1 ⟨rfl, hB⟩
  have hA : Below w.heap.size w (w.alloc (.cells (msgV kd ini search snd frm rcv site hops mx mxs maxCost walk iniSite floor) 25)) := (Below.refl _ w).alloc (Nat.le_refl _) _
  have hB1 : Below w.heap.size w w1 := hA.trans (hB.mono (by simp))
  have hx : w1.heap[w.heap.size]? = some (.cells (msgV kd ini search snd frm rcv site hops mx mxs maxCost walk iniSite floor) 25) := (hB.block _ (by simp)).trans (heap_alloc_at _ _ rfl)
  have h1 := h.below hB1
  have c7 := cell_in h1.site 7
  have c1 := cell_in h1.site 1
  simp [siteCells] at c7 c1
  have k2 := k15 w1
  have hl : ∀ n, (Instr.lookup 35 (.map (some i)) (.string rcv) true).run Ybaz.prog (w1.drewN n) = .ok (.tuple #[.int .i64 0, .bool false]) (w1.drewN n) := fun n => look_no (w := w1.drewN n) h1.index rcv
  have m0 := cell_in hx 0
  have m1 := cell_in hx 1
  have m2 := cell_in hx 2
  have m3 := cell_in hx 3
  have m4 := cell_in hx 4
  have m5 := cell_in hx 5
  have m6 := cell_in hx 6
  have m7 := cell_in hx 7
  have m8 := cell_in hx 8
  have m9 := cell_in hx 9
  have m10 := cell_in hx 10
  have m11 := cell_in hx 11
  have m12 := cell_in hx 12
  have m13 := cell_in hx 13
  simp [msgV] at m0 m1 m2 m3 m4 m5 m6 m7 m8 m9 m10 m11 m12 m13
  have l1 := lt_in h1.site
  have l2 := lt_in hx
  clear hB key hA hx h
  go_wp2_with fail
  refine k2.mono ?_
  rintro e w2 ⟨rfl, rfl⟩
  go_wp2
  go_quiet (fail)
  go_wp2
  go_ret
  exact ⟨rfl, below_drewN hB1 _⟩

end Go.Proofs.YbulkbviqGreatFmt
