/-
  CheckMessage at the kind 5.
-/
import Derived.Test.YbulkbviqGreatFmtErr
import Derived.WalkKit
import Derived.WalkSpells
import Derived.WalkLawsBesides
import Derived.Handy
import Derived.WalkSmall
import Derived.BigRegion
import Derived.BigQuiet
import Derived.Deep.QuietTactic
import Derived.Deep.RegionWith
set_option linter.unusedVariables false
namespace Go.Proofs.YbulkbviqGreatFmt
open Go.RowKit Go.Extern.Stop Go.Stop Go.Extern

set_option maxRecDepth 100000 in
set_option maxHeartbeats 1600000 in
theorem chk5_site (F : Interp) (name : ByteArray) (search hops maxCost walk floor : Int) (ini snd frm rcv site mx mxs iniSite : ByteArray) (w : World) (li : ini.size ≤ maxLen) (ls : snd.size ≤ maxLen) (lr : rcv.size ≤ maxLen) (lm : mx.size ≤ maxLen) (lt : iniSite.size ≤ maxLen) (sb : Nat) (a : Addr) (t : ByteArray) (hF : F.answers w.tape) (hn : w.cell? ⟨sb, 0, none⟩ = some (.string name)) (hsb : sb < w.heap.size) (he : w.cell? ⟨0, 0, none⟩ = some (.iface 131 (.pointer (some a)))) (h0 : 0 < w.heap.size) (ht : w.cell? a = some (.string t)) (ha : a.block < w.heap.size) (b : (site.toList == name.toList) = false) :
    Calls Ybaz.prog 9 #[.pointer (some ⟨sb, 0, none⟩), .agg (msgV 5 ini search snd frm rcv site hops mx mxs maxCost walk iniSite floor)] w fun e w' => ∃ T b, e = .returned (.iface T (.pointer (some ⟨b, 0, none⟩))) ∧ Below w.heap.size w w' := by
  have hsb1 : sb < w.heap.size + 1 := by omega
  have h01 : 0 < w.heap.size + 1 := by omega
  unfold msgV
  go_enter Ybaz.func9, Ybaz.ntmps9
  go_wp2_with fail
  go_quiet (fail)
  go_wp2_with fail
  go_quiet (fail)
  go_wp2_with fail
  go_region_with (first | (go_at_call 27; refine (errb_addr F w _ _ (by repeat (first | with_reducible exact Below.refl _ _ | (with_reducible refine below_drewN ?_ _) | (with_reducible refine Below.drew ?_) | (with_reducible refine Below.alloc ?_ (by first | omega | (simp; done) | (simp; omega)) _))) (by simp) site name hF).mono ?_; rintro e w2 ⟨b, rfl, hB2⟩))
  all_goals (go_wp2; go_ret; exact ⟨_, _, rfl, by first | exact hB2 | (with_reducible refine below_drewN ?_ _; exact hB2) | exact hB2.drew⟩)

set_option maxRecDepth 100000 in
set_option maxHeartbeats 1600000 in
theorem chk5_ini (F : Interp) (name : ByteArray) (search hops maxCost walk floor : Int) (ini snd frm rcv site mx mxs iniSite : ByteArray) (w : World) (li : ini.size ≤ maxLen) (ls : snd.size ≤ maxLen) (lr : rcv.size ≤ maxLen) (lm : mx.size ≤ maxLen) (lt : iniSite.size ≤ maxLen) (sb : Nat) (a : Addr) (t : ByteArray) (hF : F.answers w.tape) (hn : w.cell? ⟨sb, 0, none⟩ = some (.string name)) (hsb : sb < w.heap.size) (he : w.cell? ⟨0, 0, none⟩ = some (.iface 131 (.pointer (some a)))) (h0 : 0 < w.heap.size) (ht : w.cell? a = some (.string t)) (ha : a.block < w.heap.size) (g0 : (site.toList == name.toList) = true) (b : validB ini = false) :
    Calls Ybaz.prog 9 #[.pointer (some ⟨sb, 0, none⟩), .agg (msgV 5 ini search snd frm rcv site hops mx mxs maxCost walk iniSite floor)] w fun e w' => ∃ T b, e = .returned (.iface T (.pointer (some ⟨b, 0, none⟩))) ∧ Below w.heap.size w w' := by
  have hsb1 : sb < w.heap.size + 1 := by omega
  have h01 : 0 < w.heap.size + 1 := by omega
  unfold msgV
  go_enter Ybaz.func9, Ybaz.ntmps9
  go_wp2_with fail
  go_quiet (fail)
  go_wp2_with fail
  go_quiet (fail)
  go_wp2_with (first | (go_at_call 28; refine (valid28 _ _ (by assumption)).mono ?_; rintro e w1 ⟨rfl, rfl⟩))
  refine (errb_ini F w _ _ ?_ ?_ ini a t hF ht ha).mono ?_
  · repeat (first | with_reducible exact Below.refl _ _ | (with_reducible refine below_drewN ?_ _) | (with_reducible refine Below.drew ?_) | (with_reducible refine Below.alloc ?_ (by first | omega | (simp; done) | (simp; omega)) _))
  · simp
  · rintro e w2 ⟨b, rfl, hB2⟩
    go_wp2
    go_ret
    exact ⟨_, _, rfl, hB2⟩

set_option maxRecDepth 100000 in
set_option maxHeartbeats 1600000 in
theorem chk5_snd (F : Interp) (name : ByteArray) (search hops maxCost walk floor : Int) (ini snd frm rcv site mx mxs iniSite : ByteArray) (w : World) (li : ini.size ≤ maxLen) (ls : snd.size ≤ maxLen) (lr : rcv.size ≤ maxLen) (lm : mx.size ≤ maxLen) (lt : iniSite.size ≤ maxLen) (sb : Nat) (a : Addr) (t : ByteArray) (hF : F.answers w.tape) (hn : w.cell? ⟨sb, 0, none⟩ = some (.string name)) (hsb : sb < w.heap.size) (he : w.cell? ⟨0, 0, none⟩ = some (.iface 131 (.pointer (some a)))) (h0 : 0 < w.heap.size) (ht : w.cell? a = some (.string t)) (ha : a.block < w.heap.size) (g0 : (site.toList == name.toList) = true) (g1 : validB ini = true) (b : validB snd = false) :
    Calls Ybaz.prog 9 #[.pointer (some ⟨sb, 0, none⟩), .agg (msgV 5 ini search snd frm rcv site hops mx mxs maxCost walk iniSite floor)] w fun e w' => ∃ T b, e = .returned (.iface T (.pointer (some ⟨b, 0, none⟩))) ∧ Below w.heap.size w w' := by
  have hsb1 : sb < w.heap.size + 1 := by omega
  have h01 : 0 < w.heap.size + 1 := by omega
  unfold msgV
  go_enter Ybaz.func9, Ybaz.ntmps9
  go_wp2_with fail
  go_quiet (fail)
  go_wp2_with fail
  go_quiet (fail)
  go_wp2_with (first | (go_at_call 28; refine (valid28 _ _ (by assumption)).mono ?_; rintro e w1 ⟨rfl, rfl⟩))
  refine (errb_snd F w _ _ ?_ ?_ snd a t hF ht ha).mono ?_
  · repeat (first | with_reducible exact Below.refl _ _ | (with_reducible refine below_drewN ?_ _) | (with_reducible refine Below.drew ?_) | (with_reducible refine Below.alloc ?_ (by first | omega | (simp; done) | (simp; omega)) _))
  · simp
  · rintro e w2 ⟨b, rfl, hB2⟩
    go_wp2
    go_ret
    exact ⟨_, _, rfl, hB2⟩

set_option maxRecDepth 100000 in
set_option maxHeartbeats 1600000 in
theorem chk5_rcv (F : Interp) (name : ByteArray) (search hops maxCost walk floor : Int) (ini snd frm rcv site mx mxs iniSite : ByteArray) (w : World) (li : ini.size ≤ maxLen) (ls : snd.size ≤ maxLen) (lr : rcv.size ≤ maxLen) (lm : mx.size ≤ maxLen) (lt : iniSite.size ≤ maxLen) (sb : Nat) (a : Addr) (t : ByteArray) (hF : F.answers w.tape) (hn : w.cell? ⟨sb, 0, none⟩ = some (.string name)) (hsb : sb < w.heap.size) (he : w.cell? ⟨0, 0, none⟩ = some (.iface 131 (.pointer (some a)))) (h0 : 0 < w.heap.size) (ht : w.cell? a = some (.string t)) (ha : a.block < w.heap.size) (g0 : (site.toList == name.toList) = true) (g1 : validB ini = true) (g2 : validB snd = true) (b : validB rcv = false) :
    Calls Ybaz.prog 9 #[.pointer (some ⟨sb, 0, none⟩), .agg (msgV 5 ini search snd frm rcv site hops mx mxs maxCost walk iniSite floor)] w fun e w' => ∃ T b, e = .returned (.iface T (.pointer (some ⟨b, 0, none⟩))) ∧ Below w.heap.size w w' := by
  have hsb1 : sb < w.heap.size + 1 := by omega
  have h01 : 0 < w.heap.size + 1 := by omega
  unfold msgV
  go_enter Ybaz.func9, Ybaz.ntmps9
  go_wp2_with fail
  go_quiet (fail)
  go_wp2_with fail
  go_quiet (fail)
  go_wp2_with (first | (go_at_call 28; refine (valid28 _ _ (by assumption)).mono ?_; rintro e w1 ⟨rfl, rfl⟩))
  refine (errb_rcv F w _ _ ?_ ?_ rcv a t hF ht ha).mono ?_
  · repeat (first | with_reducible exact Below.refl _ _ | (with_reducible refine below_drewN ?_ _) | (with_reducible refine Below.drew ?_) | (with_reducible refine Below.alloc ?_ (by first | omega | (simp; done) | (simp; omega)) _))
  · simp
  · rintro e w2 ⟨b, rfl, hB2⟩
    go_wp2
    go_ret
    exact ⟨_, _, rfl, hB2⟩

set_option maxRecDepth 100000 in
set_option maxHeartbeats 1600000 in
theorem chk5_search (F : Interp) (name : ByteArray) (search hops maxCost walk floor : Int) (ini snd frm rcv site mx mxs iniSite : ByteArray) (w : World) (li : ini.size ≤ maxLen) (ls : snd.size ≤ maxLen) (lr : rcv.size ≤ maxLen) (lm : mx.size ≤ maxLen) (lt : iniSite.size ≤ maxLen) (sb : Nat) (a : Addr) (t : ByteArray) (hF : F.answers w.tape) (hn : w.cell? ⟨sb, 0, none⟩ = some (.string name)) (hsb : sb < w.heap.size) (he : w.cell? ⟨0, 0, none⟩ = some (.iface 131 (.pointer (some a)))) (h0 : 0 < w.heap.size) (ht : w.cell? a = some (.string t)) (ha : a.block < w.heap.size) (g0 : (site.toList == name.toList) = true) (g1 : validB ini = true) (g2 : validB snd = true) (g3 : validB rcv = true) (b : (search == 0) = true) :
    Calls Ybaz.prog 9 #[.pointer (some ⟨sb, 0, none⟩), .agg (msgV 5 ini search snd frm rcv site hops mx mxs maxCost walk iniSite floor)] w fun e w' => ∃ T b, e = .returned (.iface T (.pointer (some ⟨b, 0, none⟩))) ∧ Below w.heap.size w w' := by
  have hsb1 : sb < w.heap.size + 1 := by omega
  have h01 : 0 < w.heap.size + 1 := by omega
  unfold msgV
  go_enter Ybaz.func9, Ybaz.ntmps9
  go_wp2_with fail
  go_quiet (fail)
  go_wp2_with fail
  go_quiet (fail)
  go_wp2_with (first | (go_at_call 28; refine (valid28 _ _ (by assumption)).mono ?_; rintro e w1 ⟨rfl, rfl⟩))
  refine (new29 _ _).mono ?_
  rintro e w2 ⟨rfl, rfl⟩
  go_wp2
  go_ret
  refine ⟨_, _, rfl, ?_⟩
  repeat (first | with_reducible exact Below.refl _ _ | (with_reducible refine below_drewN ?_ _) | (with_reducible refine Below.drew ?_) | (with_reducible refine Below.alloc ?_ (by first | omega | (simp; done) | (simp; omega)) _))

set_option maxRecDepth 100000 in
set_option maxHeartbeats 1600000 in
theorem chk5_ok (F : Interp) (name : ByteArray) (search hops maxCost walk floor : Int) (ini snd frm rcv site mx mxs iniSite : ByteArray) (w : World) (li : ini.size ≤ maxLen) (ls : snd.size ≤ maxLen) (lr : rcv.size ≤ maxLen) (lm : mx.size ≤ maxLen) (lt : iniSite.size ≤ maxLen) (sb : Nat) (a : Addr) (t : ByteArray) (hF : F.answers w.tape) (hn : w.cell? ⟨sb, 0, none⟩ = some (.string name)) (hsb : sb < w.heap.size) (he : w.cell? ⟨0, 0, none⟩ = some (.iface 131 (.pointer (some a)))) (h0 : 0 < w.heap.size) (ht : w.cell? a = some (.string t)) (ha : a.block < w.heap.size) (g0 : (site.toList == name.toList) = true) (g1 : validB ini = true) (g2 : validB snd = true) (g3 : validB rcv = true) (g4 : (search == 0) = false) :
    Calls Ybaz.prog 9 #[.pointer (some ⟨sb, 0, none⟩), .agg (msgV 5 ini search snd frm rcv site hops mx mxs maxCost walk iniSite floor)] w fun e w' => e = .returned .nilIface ∧ Below w.heap.size w w' := by
  have hsb1 : sb < w.heap.size + 1 := by omega
  have h01 : 0 < w.heap.size + 1 := by omega
  unfold msgV
  go_enter Ybaz.func9, Ybaz.ntmps9
  go_wp2_with fail
  go_quiet (fail)
  go_wp2_with fail
  go_quiet (fail)
  go_wp2_with (first | (go_at_call 28; refine (valid28 _ _ (by assumption)).mono ?_; rintro e w1 ⟨rfl, rfl⟩))
  go_ret
  refine ⟨rfl, ?_⟩
  repeat (first | with_reducible exact Below.refl _ _ | (with_reducible refine below_drewN ?_ _) | (with_reducible refine Below.drew ?_) | (with_reducible refine Below.alloc ?_ (by first | omega | (simp; done) | (simp; omega)) _))

theorem chk5_take (F : Interp) (name : ByteArray) (search hops maxCost walk floor : Int) (ini snd frm rcv site mx mxs iniSite : ByteArray) (w : World) (li : ini.size ≤ maxLen) (ls : snd.size ≤ maxLen) (lr : rcv.size ≤ maxLen) (lm : mx.size ≤ maxLen) (lt : iniSite.size ≤ maxLen) (sb : Nat) (a : Addr) (t : ByteArray) (hF : F.answers w.tape) (hn : w.cell? ⟨sb, 0, none⟩ = some (.string name)) (hsb : sb < w.heap.size) (he : w.cell? ⟨0, 0, none⟩ = some (.iface 131 (.pointer (some a)))) (h0 : 0 < w.heap.size) (ht : w.cell? a = some (.string t)) (ha : a.block < w.heap.size) (hr : (refB 5 name site ini snd rcv search hops walk maxCost mx iniSite) = false) :
    Calls Ybaz.prog 9 #[.pointer (some ⟨sb, 0, none⟩), .agg (msgV 5 ini search snd frm rcv site hops mx mxs maxCost walk iniSite floor)] w fun e w' => e = .returned .nilIface ∧ Below w.heap.size w w' := by
  cases g0 : (site.toList == name.toList) with
  | false => exact absurd hr (by simp [refB, g0])
  | true =>
    cases g1 : validB ini with
    | false => exact absurd hr (by simp [refB, g1])
    | true =>
      cases g2 : validB snd with
      | false => exact absurd hr (by simp [refB, g2])
      | true =>
        cases g3 : validB rcv with
        | false => exact absurd hr (by simp [refB, g3])
        | true =>
          cases g4 : (search == 0) with
          | true => exact absurd hr (by simp [refB, g4])
          | false =>
            exact chk5_ok F name search hops maxCost walk floor ini snd frm rcv site mx mxs iniSite w li ls lr lm lt sb a t hF hn hsb he h0 ht ha g0 g1 g2 g3 g4

theorem chk5_refuse (F : Interp) (name : ByteArray) (search hops maxCost walk floor : Int) (ini snd frm rcv site mx mxs iniSite : ByteArray) (w : World) (li : ini.size ≤ maxLen) (ls : snd.size ≤ maxLen) (lr : rcv.size ≤ maxLen) (lm : mx.size ≤ maxLen) (lt : iniSite.size ≤ maxLen) (sb : Nat) (a : Addr) (t : ByteArray) (hF : F.answers w.tape) (hn : w.cell? ⟨sb, 0, none⟩ = some (.string name)) (hsb : sb < w.heap.size) (he : w.cell? ⟨0, 0, none⟩ = some (.iface 131 (.pointer (some a)))) (h0 : 0 < w.heap.size) (ht : w.cell? a = some (.string t)) (ha : a.block < w.heap.size) (hr : (refB 5 name site ini snd rcv search hops walk maxCost mx iniSite) = true) :
    Calls Ybaz.prog 9 #[.pointer (some ⟨sb, 0, none⟩), .agg (msgV 5 ini search snd frm rcv site hops mx mxs maxCost walk iniSite floor)] w fun e w' => ∃ T b, e = .returned (.iface T (.pointer (some ⟨b, 0, none⟩))) ∧ Below w.heap.size w w' := by
  cases g0 : (site.toList == name.toList) with
  | false => exact chk5_site F name search hops maxCost walk floor ini snd frm rcv site mx mxs iniSite w li ls lr lm lt sb a t hF hn hsb he h0 ht ha g0
  | true =>
    cases g1 : validB ini with
    | false => exact chk5_ini F name search hops maxCost walk floor ini snd frm rcv site mx mxs iniSite w li ls lr lm lt sb a t hF hn hsb he h0 ht ha g0 g1
    | true =>
      cases g2 : validB snd with
      | false => exact chk5_snd F name search hops maxCost walk floor ini snd frm rcv site mx mxs iniSite w li ls lr lm lt sb a t hF hn hsb he h0 ht ha g0 g1 g2
      | true =>
        cases g3 : validB rcv with
        | false => exact chk5_rcv F name search hops maxCost walk floor ini snd frm rcv site mx mxs iniSite w li ls lr lm lt sb a t hF hn hsb he h0 ht ha g0 g1 g2 g3
        | true =>
          cases g4 : (search == 0) with
          | true => exact chk5_search F name search hops maxCost walk floor ini snd frm rcv site mx mxs iniSite w li ls lr lm lt sb a t hF hn hsb he h0 ht ha g0 g1 g2 g3 g4
          | false =>
            exact absurd hr (by simp [refB, g0, g1, g2, g3, g4])

end Go.Proofs.YbulkbviqGreatFmt
