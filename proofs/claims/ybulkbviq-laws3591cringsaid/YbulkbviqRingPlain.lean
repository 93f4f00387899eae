/-
  Plain facts on the list of lapses and on the row of ring waits. No Go text in sight.
-/
import Derived.Test.YbulkbviqLapses
namespace Go.Proofs.Ybulkbviq
open Go.RowKit

/-- The cells of the first k ring waits. -/
def ringCells (Wt Pr St : Nat → ByteArray) : Nat → List Value
  | 0 => []
  | k + 1 => ringCells Wt Pr St k ++ [.string (Wt k), .string (Pr k), .string (St k)]

theorem ringCells_len (Wt Pr St : Nat → ByteArray) : ∀ k, (ringCells Wt Pr St k).length = k * 3
  | 0 => rfl
  | k + 1 => by simp [ringCells, ringCells_len Wt Pr St k]; omega

theorem ringCells_at (Wt Pr St : Nat → ByteArray) : ∀ (k i : Nat), i < k → (ringCells Wt Pr St k)[i * 3]? = some (.string (Wt i)) ∧ (ringCells Wt Pr St k)[i * 3 + 1]? = some (.string (Pr i)) ∧ (ringCells Wt Pr St k)[i * 3 + 2]? = some (.string (St i))
  | 0, i, h => by omega
  | k + 1, i, h => by
    have hl := ringCells_len Wt Pr St k
    by_cases e : i = k
    · subst e
      refine ⟨?_, ?_, ?_⟩
      · rw [ringCells, List.getElem?_append_right (by omega), hl, Nat.sub_self]; rfl
      · rw [ringCells, List.getElem?_append_right (by omega), hl, show i * 3 + 1 - i * 3 = 1 by omega]; rfl
      · rw [ringCells, List.getElem?_append_right (by omega), hl, show i * 3 + 2 - i * 3 = 2 by omega]; rfl
    · have ih := ringCells_at Wt Pr St k i (by omega)
      refine ⟨?_, ?_, ?_⟩
      · rw [ringCells, List.getElem?_append_left (by omega)]; exact ih.1
      · rw [ringCells, List.getElem?_append_left (by omega)]; exact ih.2.1
      · rw [ringCells, List.getElem?_append_left (by omega)]; exact ih.2.2

section
variable (ini : ByteArray) (n : Int) (site home vic : ByteArray) (Wt Pr St : Nat → ByteArray)

theorem laps_flat : ∀ k, (laps ini n site home vic Wt Pr St k).flatten.length = (laps ini n site home vic Wt Pr St k).length * 14
  | 0 => rfl
  | k + 1 => by
    have ih := laps_flat k
    unfold laps
    split
    · simpa using ih
    · simp only [List.flatten_append, List.length_append, ih, List.flatten_cons, List.flatten_nil, List.append_nil, List.length_cons, List.length_nil]
      simp [gCells]
      omega

theorem laps_pre (k : Nat) : ∀ d, ∃ r, laps ini n site home vic Wt Pr St (k + d) = laps ini n site home vic Wt Pr St k ++ r
  | 0 => ⟨[], by simp⟩
  | d + 1 => by
    obtain ⟨r, hr⟩ := laps_pre k d
    refine ⟨r ++ (if ((St (k + d)).toList == home.toList) = true then [] else [gCells ini n (Wt (k + d)) site (Pr (k + d)) (St (k + d)) vic]), ?_⟩
    rw [← List.append_assoc, ← hr]
    rfl

/-- A wait that is not to 'home' has its lapse, at the place that the count has come to. -/
theorem laps_at {k m : Nat} (hk : k < m) (hf : ((St k).toList == home.toList) = false) :
    (laps ini n site home vic Wt Pr St k).length < (laps ini n site home vic Wt Pr St m).length ∧
      ∀ j, j < 14 → (laps ini n site home vic Wt Pr St m).flatten[(laps ini n site home vic Wt Pr St k).length * 14 + j]? = (gCells ini n (Wt k) site (Pr k) (St k) vic)[j]? := by
  obtain ⟨r, hr⟩ := laps_pre ini n site home vic Wt Pr St (k + 1) (m - (k + 1))
  rw [show k + 1 + (m - (k + 1)) = m by omega] at hr
  have e : laps ini n site home vic Wt Pr St (k + 1) = laps ini n site home vic Wt Pr St k ++ [gCells ini n (Wt k) site (Pr k) (St k) vic] := by simp [laps, hf]
  rw [e] at hr
  have hl := laps_flat ini n site home vic Wt Pr St k
  refine ⟨by rw [hr]; simp, fun j hj => ?_⟩
  rw [hr, List.flatten_append, List.flatten_append, List.append_assoc, List.getElem?_append_right (by omega), hl]
  rw [show (laps ini n site home vic Wt Pr St k).length * 14 + j - (laps ini n site home vic Wt Pr St k).length * 14 = j by omega]
  rw [List.flatten_cons, List.flatten_nil, List.append_nil, List.getElem?_append_left (by simp [gCells]; omega)]

end

/-- What the walk is told of a slice that owns 'm' messages. -/
theorem owns_msgs {w : World} {base m : Nat} {v : Value} {xs : List Value} (h : w.ownsRow base 31 14 v m xs) :
    ∃ ao cap, v = .slice ao m cap ∧ (0 < m → ∃ g, ao = some ⟨g, 0, none⟩ ∧ base ≤ g ∧ g < w.heap.size ∧ ∀ j u, xs[j]? = some u → w.cell? ⟨g, j, none⟩ = some u) := by
  rcases h.2 with ⟨rfl, rfl⟩ | ⟨g, cap, cur, rfl, hb, hg, hr⟩
  · exact ⟨Option.none, 0, rfl, fun hm => by omega⟩
  · refine ⟨_, cap, rfl, fun _ => ⟨g, rfl, hb, ?_, fun j u hu => ?_⟩⟩
    · rcases Nat.lt_or_ge g w.heap.size with hlt | hge
      · exact hlt
      · rw [Array.getElem?_eq_none hge] at hg; cases hg
    · have := h.cells (g := g) rfl j u hu
      have hadd : (⟨g, 0, none⟩ : Addr).add j = ⟨g, j, none⟩ := by unfold Addr.add; split <;> simp_all
      rwa [hadd] at this

end Go.Proofs.Ybulkbviq
