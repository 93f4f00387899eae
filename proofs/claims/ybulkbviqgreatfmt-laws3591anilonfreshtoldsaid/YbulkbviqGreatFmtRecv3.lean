/-
  Receive: what is refused, at every kind; a check that is taken.
-/
import Derived.Test.YbulkbviqGreatFmtRecv2
import Derived.Test.YbulkbviqGreatFmtChk5
import Derived.WalkKit
import Derived.WalkSpells
import Derived.RegionTactic
import Derived.BigRegion
import Derived.WalkSmall
set_option linter.unusedVariables false
namespace Go.Proofs.YbulkbviqGreatFmt
open Go.RowKit Go.ChangeMaps Go.Extern.Stop Go.Stop Go.Extern

/-- The world at a message's receipt. -/
structure Base (F : Interp) (w : World) (sb i q f : Nat) (name : ByteArray) (a : Addr) (t : ByteArray) : Prop where
  fresh : Fresh w sb i q f name
  told : F.answers w.tape
  err : w.cell? ⟨0, 0, none⟩ = some (.iface 131 (.pointer (some a)))
  zero : 0 < w.heap.size
  txt : w.cell? a = some (.string t)
  lt : a.block < w.heap.size

theorem Base.below {F : Interp} {w w' : World} {sb i q f : Nat} {name : ByteArray} {a : Addr} {t : ByteArray} (h : Base F w sb i q f name a t) (hB : Below w.heap.size w w') : Base F w' sb i q f name a t :=
  ⟨h.fresh.below hB, by rw [hB.tape]; exact h.told, (hB.cell (p := ⟨0, 0, none⟩) h.zero).trans h.err, Nat.lt_of_lt_of_le h.zero hB.size, (hB.cell h.lt).trans h.txt, Nat.lt_of_lt_of_le h.lt hB.size⟩

variable {F : Interp} {w : World} {sb i q f : Nat} {name : ByteArray} {a : Addr} {t : ByteArray}

theorem Base.alloc (h : Base F w sb i q f name a t) (o : Obj) : Base F (w.alloc o) sb i q f name a t := h.below ((Below.refl _ _).alloc (Nat.le_refl _) _)

theorem Base.named (h : Base F w sb i q f name a t) : w.cell? ⟨sb, 0, none⟩ = some (.string name) := by
  have c0 := cell_in h.fresh.site 0
  simp [siteCells] at c0
  exact c0

set_option maxRecDepth 100000 in
set_option maxHeartbeats 1000000 in
/-- A message that CheckMessage refuses is answered by nothing. -/
theorem receive_refuse (kind search hops maxCost walk floor : Int) (ini snd frm rcv site mx mxs iniSite : ByteArray)
    (key : Calls Ybaz.prog 9 #[.pointer (some ⟨sb, 0, none⟩), .agg (msgV kind ini search snd frm rcv site hops mx mxs maxCost walk iniSite floor)] (w.alloc (.cells (msgV kind ini search snd frm rcv site hops mx mxs maxCost walk iniSite floor) 25))
      fun e w' => ∃ T b, e = .returned (.iface T (.pointer (some ⟨b, 0, none⟩))) ∧ Below (w.alloc (.cells (msgV kind ini search snd frm rcv site hops mx mxs maxCost walk iniSite floor) 25)).heap.size (w.alloc (.cells (msgV kind ini search snd frm rcv site hops mx mxs maxCost walk iniSite floor) 25)) w') :
    Calls Ybaz.prog 7 #[.pointer (some ⟨sb, 0, none⟩), .agg (msgV kind ini search snd frm rcv site hops mx mxs maxCost walk iniSite floor)] w fun e w' => e = .returned (.slice none 0 0) ∧ Below w.heap.size w w' := by
  unfold msgV at key ⊢
  go_enter Ybaz.func7, Ybaz.ntmps7
  go_wp2_with fail
  refine key.mono ?_
  rintro e w1 ⟨T, b, rfl, hB⟩
  have hB1 : Below w.heap.size w w1 := ((Below.refl _ w).alloc (Nat.le_refl _) _).trans (hB.mono (by simp))
  clear hB key
  go_wp2
  go_ret
  exact ⟨rfl, hB1⟩

set_option maxRecDepth 100000 in
set_option maxHeartbeats 1000000 in
/-- A check that is taken: one lapse. -/
theorem receive5_take (search hops maxCost walk floor : Int) (ini snd frm rcv site mx mxs iniSite : ByteArray) (h : Fresh w sb i q f name)
    (key : Calls Ybaz.prog 9 #[.pointer (some ⟨sb, 0, none⟩), .agg (msgV 5 ini search snd frm rcv site hops mx mxs maxCost walk iniSite floor)] (w.alloc (.cells (msgV 5 ini search snd frm rcv site hops mx mxs maxCost walk iniSite floor) 25))
      fun e w' => e = .returned .nilIface ∧ Below (w.alloc (.cells (msgV 5 ini search snd frm rcv site hops mx mxs maxCost walk iniSite floor) 25)).heap.size (w.alloc (.cells (msgV 5 ini search snd frm rcv site hops mx mxs maxCost walk iniSite floor) 25)) w') :
    Calls Ybaz.prog 7 #[.pointer (some ⟨sb, 0, none⟩), .agg (msgV 5 ini search snd frm rcv site hops mx mxs maxCost walk iniSite floor)] w fun e w' =>
      ∃ k, e = .returned (.slice (some ⟨k, 0, none⟩) 1 1) ∧ w.heap.size ≤ k ∧ w'.heap[k]? = some (.cells (msgV 6 ini search rcv name snd frm 0 ⟨#[]⟩ ⟨#[]⟩ 0 0 ⟨#[]⟩ 0) 25) ∧ Below w.heap.size w w' := by
  go_enter Ybaz.func7, Ybaz.ntmps7
  unfold msgV at key ⊢
  go_wp2_with fail
  refine key.mono ?_
  rintro e w1 ⟨rfl, hB⟩
  have hA : Below w.heap.size w (w.alloc (.cells (msgV 5 ini search snd frm rcv site hops mx mxs maxCost walk iniSite floor) 25)) := (Below.refl _ w).alloc (Nat.le_refl _) _
  have hB1 : Below w.heap.size w w1 := hA.trans (hB.mono (by simp))
  have hx : w1.heap[w.heap.size]? = some (.cells (msgV 5 ini search snd frm rcv site hops mx mxs maxCost walk iniSite floor) 25) := (hB.block _ (by simp)).trans (heap_alloc_at _ _ rfl)
  have h1 := h.below hB1
  have c7 := cell_in h1.site 7
  simp [siteCells] at c7
  have k2 := check_new 5 search hops maxCost walk floor ini snd frm rcv site mx mxs iniSite h1
  have m0 := cell_in hx 0
  have m1 := cell_in hx 1
  have m2 := cell_in hx 2
  have m3 := cell_in hx 3
  have m4 := cell_in hx 4
  have m5 := cell_in hx 5
  have m6 := cell_in hx 6
  have m7 := cell_in hx 7
  have m8 := cell_in hx 8
  have m9 := cell_in hx 9
  have m10 := cell_in hx 10
  have m11 := cell_in hx 11
  have m12 := cell_in hx 12
  have m13 := cell_in hx 13
  simp [msgV] at m0 m1 m2 m3 m4 m5 m6 m7 m8 m9 m10 m11 m12 m13
  unfold msgV at k2
  clear hB key hA hx h
  go_wp2_with fail
  refine k2.mono ?_
  rintro e w2 ⟨k, rfl, hk, hk2, hB2⟩
  go_wp2
  go_ret
  exact ⟨k, rfl, Nat.le_trans hB1.size hk, hk2, hB1.trans (hB2.mono hB1.size)⟩

end Go.Proofs.YbulkbviqGreatFmt
