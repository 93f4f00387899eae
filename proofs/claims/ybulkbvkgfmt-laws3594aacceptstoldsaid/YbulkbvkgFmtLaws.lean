/-
  The walks of the two laws over checkSize.
-/
import Derived.Test.YbulkbvkgFmtSize
import Derived.WalkKit
import Derived.WalkSpells
import Derived.WalkLawsBesides
namespace Go.Proofs.YbulkbvkgFmt
open Go.RowKit Go.Extern.Stop Go.Stop Go.Extern

set_option maxRecDepth 100000 in
set_option maxHeartbeats 800000 in
theorem accepts_any (F : Interp) (a : Option Addr) (n cap : Nat) (w : World) (hF : F.answers w.tape) :
    Calls Ybaf.prog 3 #[.slice a n cap] w fun e w' => e = .returned (.bool true) ∧ Below w.heap.size w w' := by
  by_cases h0 : n = 0
  · subst h0
    have key := size_zero F a cap w hF
    go_enter Ybaf.func3, Ybaf.ntmps3
    go_wp2_with fail
    refine key.mono ?_
    rintro e w1 ⟨k, rfl, hB⟩
    go_wp2
    go_ret
    exact ⟨rfl, hB⟩
  · by_cases h1 : 1073741824 < n
    · have key := size_big F a n cap w hF (by omega)
      have hz : (1 : Int) ≤ (n : Int) := by omega
      have hb : ¬ ((n : Int) ≤ 1073741824) := by omega
      go_enter Ybaf.func3, Ybaf.ntmps3
      go_wp2_with fail
      refine key.mono ?_
      rintro e w1 ⟨k, rfl, hB⟩
      go_wp2
      go_ret
      exact ⟨rfl, hB⟩
    · have key := size_ok a n cap w (by omega) (by omega)
      have hz : (1 : Int) ≤ (n : Int) := by omega
      have hb : (n : Int) ≤ 1073741824 := by omega
      go_enter Ybaf.func3, Ybaf.ntmps3
      go_wp2_with fail
      refine key.mono ?_
      rintro e w1 ⟨rfl, rfl⟩
      go_wp2
      go_ret
      exact ⟨rfl, Below.refl _ _⟩

end Go.Proofs.YbulkbvkgFmt
