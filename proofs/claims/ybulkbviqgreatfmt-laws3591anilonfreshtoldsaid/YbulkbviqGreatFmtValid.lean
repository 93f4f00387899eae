/-
  The two tests of an id: ValidID and the law's own zzs3591avalid: both say the same.
-/
import Derived.Test.YbulkbviqGreatFmtCards
import Derived.WalkKit
import Derived.WalkSpells
import Derived.WalkLawsBesides
namespace Go.Proofs.YbulkbviqGreatFmt
open Go.RowKit

def okC (s : ByteArray) (i : Nat) : Bool := if h : i < s.size then decide (32 < s[i].toNat) && decide (s[i].toNat ≤ 126) else true
theorem okC_no {s : ByteArray} {q : Nat} (hq : q < s.size) (h : s[q].toNat ≤ 32 ∨ 126 < s[q].toNat) : okC s q = false := by
  unfold okC
  rw [dif_pos hq]
  simp
  omega
theorem okC_yes {s : ByteArray} {q : Nat} (hq : q < s.size) (h : 32 < s[q].toNat ∧ s[q].toNat ≤ 126) : okC s q = true := by
  unfold okC
  rw [dif_pos hq]
  simp
  omega
theorem toList_empty {s : ByteArray} : s.toList.isEmpty = decide (s.size = 0) := by
  have hlen : s.data.toList.length = s.size := by cases s; rfl
  rw [ByteArray.toList_eq, ← hlen]
  cases s.data.toList <;> simp
def validB (s : ByteArray) : Bool := decide (0 < s.size) && (List.range s.size).all (okC s)

theorem valid_no {s : ByteArray} {q : Nat} (hq : q < s.size) (h : okC s q = false) : validB s = false := by
  unfold validB
  rw [Bool.and_eq_false_iff]
  right
  rw [List.all_eq_false]
  exact ⟨q, List.mem_range.2 hq, by simp [h]⟩
theorem valid_yes {s : ByteArray} (h0 : 0 < s.size) (h : ∀ j, j < s.size → okC s j = true) : validB s = true := by
  unfold validB
  simp [h0]
  exact h
theorem valid_empty {s : ByteArray} (h0 : s.size = 0) : validB s = false := by simp [validB, h0]

theorem valid_end {s : ByteArray} {q : Nat} (h : s.size ≤ q) (hall : ∀ j, j < q → okC s j = true) : validB s = !s.toList.isEmpty := by
  rw [toList_empty]
  by_cases h0 : s.size = 0
  · rw [valid_empty h0]; simp [h0]
  · rw [valid_yes (by omega) (fun j hj => hall j (by omega))]; simp [h0]

set_option maxRecDepth 100000 in
set_option maxHeartbeats 800000 in
theorem valid28 (s : ByteArray) (w : World) (hs : s.size ≤ maxLen) :
    Calls Ybaz.prog 28 #[.string s] w fun e w' => e = .returned (.bool (validB s)) ∧ w' = w := by
  unfold maxLen at hs
  go_enter Ybaz.func28, Ybaz.ntmps28
  go_wp2
  go_loop [3] (fun i => ∃ q : Nat, q ≤ s.size ∧ i = .int .i64 q ∧ ∀ j, j < q → okC s j = true) (fun i => s.size - (intOf i).toNat)
  case atStart => exact ⟨0, Nat.zero_le _, rfl, fun j h => by omega⟩
  case round =>
    obtain ⟨q, hq, rfl, hall⟩ := hrel
    by_cases hlt : q < s.size
    · have hi : (q : Int) < (s.size : Int) := by omega
      have hp : (0 : Int) ≤ (q : Int) := by omega
      go_wp2
      all_goals first
        | (go_ret; exact ⟨by rw [valid_no hlt (okC_no hlt (by omega))]; rfl, rfl⟩)
        | (go_round
           case rel => exact ⟨q + 1, by omega, by go_num, fun j hj => by
             rcases Nat.lt_or_ge j q with h | h
             · exact hall j h
             · obtain rfl : j = q := by omega
               exact okC_yes hlt (by omega)⟩
           case measure => simp [intOf]; omega)
    · have hi : ¬ ((q : Int) < (s.size : Int)) := by omega
      go_wp2
      go_ret
      refine ⟨?_, rfl⟩
      rw [valid_end (by omega) hall]
      rfl

set_option maxRecDepth 100000 in
set_option maxHeartbeats 800000 in
theorem valid26 (s : ByteArray) (w : World) (hs : s.size ≤ maxLen) :
    Calls Ybaz.prog 26 #[.string s] w fun e w' => e = .returned (.bool (validB s)) ∧ w' = w := by
  unfold maxLen at hs
  by_cases he : s.size = 0
  · have hemp : s.toList.isEmpty = true := by rw [toList_empty]; simp [he]
    go_enter Ybaz.func26, Ybaz.ntmps26
    go_wp2
    go_ret
    exact ⟨by rw [valid_empty he]; rfl, rfl⟩
  · have hemp : s.toList.isEmpty = false := by rw [toList_empty]; simp [he]
    go_enter Ybaz.func26, Ybaz.ntmps26
    go_wp2
    go_loop [3] (fun i => ∃ q : Nat, q ≤ s.size ∧ i = .int .i64 q ∧ ∀ j, j < q → okC s j = true) (fun i => s.size - (intOf i).toNat)
    case atStart => exact ⟨0, Nat.zero_le _, rfl, fun j h => by omega⟩
    case round =>
      obtain ⟨q, hq, rfl, hall⟩ := hrel
      by_cases hlt : q < s.size
      · have hi : (q : Int) < (s.size : Int) := by omega
        have hp : (0 : Int) ≤ (q : Int) := by omega
        go_wp2
        all_goals first
          | (go_ret; exact ⟨by rw [valid_no hlt (okC_no hlt (by omega))]; rfl, rfl⟩)
          | (go_round
             case rel => exact ⟨q + 1, by omega, by go_num, fun j hj => by
               rcases Nat.lt_or_ge j q with h | h
               · exact hall j h
               · obtain rfl : j = q := by omega
                 exact okC_yes hlt (by omega)⟩
             case measure => simp [intOf]; omega)
      · have hi : ¬ ((q : Int) < (s.size : Int)) := by omega
        go_wp2
        go_ret
        exact ⟨by rw [valid_yes (by omega) (fun j hj => hall j (by omega))]; rfl, rfl⟩
end Go.Proofs.YbulkbviqGreatFmt
