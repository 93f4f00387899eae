/-
  The law's own list of refusals, at the kind 5.
-/
import Derived.Test.YbulkbviqGreatFmtMsg
import Derived.WalkKit
import Derived.WalkSpells
import Derived.WalkLawsBesides
import Derived.Handy
set_option linter.unusedVariables false
namespace Go.Proofs.YbulkbviqGreatFmt
open Go.RowKit

set_option maxRecDepth 100000 in
set_option maxHeartbeats 800000 in
theorem ref5_site (name : ByteArray) (search hops maxCost walk floor : Int) (ini snd frm rcv site mx mxs iniSite : ByteArray) (w : World) (li : ini.size ≤ maxLen) (ls : snd.size ≤ maxLen) (lr : rcv.size ≤ maxLen) (lm : mx.size ≤ maxLen) (lt : iniSite.size ≤ maxLen) (b : (site.toList == name.toList) = false) :
    Calls Ybaz.prog 8 #[.string name, .agg (msgV 5 ini search snd frm rcv site hops mx mxs maxCost walk iniSite floor)] w fun e w' => e = .returned (.bool true) ∧ w' = w.alloc (.cells (msgV 5 ini search snd frm rcv site hops mx mxs maxCost walk iniSite floor) 25) := by
  unfold msgV
  go_enter Ybaz.func8, Ybaz.ntmps8
  go_wp2_with (first
    | (go_at_call 26; refine (valid26 _ _ (by assumption)).mono ?_; rintro e w1 ⟨rfl, rfl⟩))
  go_ret
  exact ⟨rfl, rfl⟩

set_option maxRecDepth 100000 in
set_option maxHeartbeats 800000 in
theorem ref5_ini (name : ByteArray) (search hops maxCost walk floor : Int) (ini snd frm rcv site mx mxs iniSite : ByteArray) (w : World) (li : ini.size ≤ maxLen) (ls : snd.size ≤ maxLen) (lr : rcv.size ≤ maxLen) (lm : mx.size ≤ maxLen) (lt : iniSite.size ≤ maxLen) (g0 : (site.toList == name.toList) = true) (b : validB ini = false) :
    Calls Ybaz.prog 8 #[.string name, .agg (msgV 5 ini search snd frm rcv site hops mx mxs maxCost walk iniSite floor)] w fun e w' => e = .returned (.bool true) ∧ w' = w.alloc (.cells (msgV 5 ini search snd frm rcv site hops mx mxs maxCost walk iniSite floor) 25) := by
  unfold msgV
  go_enter Ybaz.func8, Ybaz.ntmps8
  go_wp2_with (first
    | (go_at_call 26; refine (valid26 _ _ (by assumption)).mono ?_; rintro e w1 ⟨rfl, rfl⟩))
  go_ret
  exact ⟨rfl, rfl⟩

set_option maxRecDepth 100000 in
set_option maxHeartbeats 800000 in
theorem ref5_snd (name : ByteArray) (search hops maxCost walk floor : Int) (ini snd frm rcv site mx mxs iniSite : ByteArray) (w : World) (li : ini.size ≤ maxLen) (ls : snd.size ≤ maxLen) (lr : rcv.size ≤ maxLen) (lm : mx.size ≤ maxLen) (lt : iniSite.size ≤ maxLen) (g0 : (site.toList == name.toList) = true) (g1 : validB ini = true) (b : validB snd = false) :
    Calls Ybaz.prog 8 #[.string name, .agg (msgV 5 ini search snd frm rcv site hops mx mxs maxCost walk iniSite floor)] w fun e w' => e = .returned (.bool true) ∧ w' = w.alloc (.cells (msgV 5 ini search snd frm rcv site hops mx mxs maxCost walk iniSite floor) 25) := by
  unfold msgV
  go_enter Ybaz.func8, Ybaz.ntmps8
  go_wp2_with (first
    | (go_at_call 26; refine (valid26 _ _ (by assumption)).mono ?_; rintro e w1 ⟨rfl, rfl⟩))
  go_ret
  exact ⟨rfl, rfl⟩

set_option maxRecDepth 100000 in
set_option maxHeartbeats 800000 in
theorem ref5_rcv (name : ByteArray) (search hops maxCost walk floor : Int) (ini snd frm rcv site mx mxs iniSite : ByteArray) (w : World) (li : ini.size ≤ maxLen) (ls : snd.size ≤ maxLen) (lr : rcv.size ≤ maxLen) (lm : mx.size ≤ maxLen) (lt : iniSite.size ≤ maxLen) (g0 : (site.toList == name.toList) = true) (g1 : validB ini = true) (g2 : validB snd = true) (b : validB rcv = false) :
    Calls Ybaz.prog 8 #[.string name, .agg (msgV 5 ini search snd frm rcv site hops mx mxs maxCost walk iniSite floor)] w fun e w' => e = .returned (.bool true) ∧ w' = w.alloc (.cells (msgV 5 ini search snd frm rcv site hops mx mxs maxCost walk iniSite floor) 25) := by
  unfold msgV
  go_enter Ybaz.func8, Ybaz.ntmps8
  go_wp2_with (first
    | (go_at_call 26; refine (valid26 _ _ (by assumption)).mono ?_; rintro e w1 ⟨rfl, rfl⟩))
  go_ret
  exact ⟨rfl, rfl⟩

set_option maxRecDepth 100000 in
set_option maxHeartbeats 800000 in
theorem ref5_search (name : ByteArray) (search hops maxCost walk floor : Int) (ini snd frm rcv site mx mxs iniSite : ByteArray) (w : World) (li : ini.size ≤ maxLen) (ls : snd.size ≤ maxLen) (lr : rcv.size ≤ maxLen) (lm : mx.size ≤ maxLen) (lt : iniSite.size ≤ maxLen) (g0 : (site.toList == name.toList) = true) (g1 : validB ini = true) (g2 : validB snd = true) (g3 : validB rcv = true) (b : (search == 0) = true) :
    Calls Ybaz.prog 8 #[.string name, .agg (msgV 5 ini search snd frm rcv site hops mx mxs maxCost walk iniSite floor)] w fun e w' => e = .returned (.bool true) ∧ w' = w.alloc (.cells (msgV 5 ini search snd frm rcv site hops mx mxs maxCost walk iniSite floor) 25) := by
  unfold msgV
  go_enter Ybaz.func8, Ybaz.ntmps8
  go_wp2_with (first
    | (go_at_call 26; refine (valid26 _ _ (by assumption)).mono ?_; rintro e w1 ⟨rfl, rfl⟩))
  go_ret
  exact ⟨rfl, rfl⟩

set_option maxRecDepth 100000 in
set_option maxHeartbeats 800000 in
theorem ref5_ok (name : ByteArray) (search hops maxCost walk floor : Int) (ini snd frm rcv site mx mxs iniSite : ByteArray) (w : World) (li : ini.size ≤ maxLen) (ls : snd.size ≤ maxLen) (lr : rcv.size ≤ maxLen) (lm : mx.size ≤ maxLen) (lt : iniSite.size ≤ maxLen) (g0 : (site.toList == name.toList) = true) (g1 : validB ini = true) (g2 : validB snd = true) (g3 : validB rcv = true) (g4 : (search == 0) = false) :
    Calls Ybaz.prog 8 #[.string name, .agg (msgV 5 ini search snd frm rcv site hops mx mxs maxCost walk iniSite floor)] w fun e w' => e = .returned (.bool false) ∧ w' = w.alloc (.cells (msgV 5 ini search snd frm rcv site hops mx mxs maxCost walk iniSite floor) 25) := by
  unfold msgV
  go_enter Ybaz.func8, Ybaz.ntmps8
  go_wp2_with (first
    | (go_at_call 26; refine (valid26 _ _ (by assumption)).mono ?_; rintro e w1 ⟨rfl, rfl⟩))
  go_ret
  exact ⟨rfl, rfl⟩

theorem ref5 (name : ByteArray) (search hops maxCost walk floor : Int) (ini snd frm rcv site mx mxs iniSite : ByteArray) (w : World) (li : ini.size ≤ maxLen) (ls : snd.size ≤ maxLen) (lr : rcv.size ≤ maxLen) (lm : mx.size ≤ maxLen) (lt : iniSite.size ≤ maxLen) :
    Calls Ybaz.prog 8 #[.string name, .agg (msgV 5 ini search snd frm rcv site hops mx mxs maxCost walk iniSite floor)] w fun e w' => e = .returned (.bool (refB 5 name site ini snd rcv search hops walk maxCost mx iniSite)) ∧ w' = w.alloc (.cells (msgV 5 ini search snd frm rcv site hops mx mxs maxCost walk iniSite floor) 25) := by
  cases g0 : (site.toList == name.toList) with
  | false =>
    have e : (refB 5 name site ini snd rcv search hops walk maxCost mx iniSite) = true := by simp [refB, g0]
    rw [e]
    exact ref5_site name search hops maxCost walk floor ini snd frm rcv site mx mxs iniSite w li ls lr lm lt g0
  | true =>
    cases g1 : validB ini with
    | false =>
      have e : (refB 5 name site ini snd rcv search hops walk maxCost mx iniSite) = true := by simp [refB, g0, g1]
      rw [e]
      exact ref5_ini name search hops maxCost walk floor ini snd frm rcv site mx mxs iniSite w li ls lr lm lt g0 g1
    | true =>
      cases g2 : validB snd with
      | false =>
        have e : (refB 5 name site ini snd rcv search hops walk maxCost mx iniSite) = true := by simp [refB, g0, g1, g2]
        rw [e]
        exact ref5_snd name search hops maxCost walk floor ini snd frm rcv site mx mxs iniSite w li ls lr lm lt g0 g1 g2
      | true =>
        cases g3 : validB rcv with
        | false =>
          have e : (refB 5 name site ini snd rcv search hops walk maxCost mx iniSite) = true := by simp [refB, g0, g1, g2, g3]
          rw [e]
          exact ref5_rcv name search hops maxCost walk floor ini snd frm rcv site mx mxs iniSite w li ls lr lm lt g0 g1 g2 g3
        | true =>
          cases g4 : (search == 0) with
          | true =>
            have e : (refB 5 name site ini snd rcv search hops walk maxCost mx iniSite) = true := by simp [refB, g0, g1, g2, g3, g4]
            rw [e]
            exact ref5_search name search hops maxCost walk floor ini snd frm rcv site mx mxs iniSite w li ls lr lm lt g0 g1 g2 g3 g4
          | false =>
            have e : (refB 5 name site ini snd rcv search hops walk maxCost mx iniSite) = false := by simp [refB, g0, g1, g2, g3, g4]
            rw [e]
            exact ref5_ok name search hops maxCost walk floor ini snd frm rcv site mx mxs iniSite w li ls lr lm lt g0 g1 g2 g3 g4

end Go.Proofs.YbulkbviqGreatFmt
