/-
  The walk of LawS3594ALengths.
-/
import Derived.Test.YbulkbvkgFmtSize
import Derived.WalkKit
import Derived.WalkSpells
import Derived.WalkLawsBesides
import Derived.Deep.OwnRows
namespace Go.Proofs.YbulkbvkgFmt
open Go.RowKit Go.Extern.Stop Go.Stop Go.Extern Go.Deep

set_option maxRecDepth 100000 in
set_option maxHeartbeats 800000 in
theorem lengths_at (F : Interp) (k : Int) (m : Nat) (w : World) (hF : F.answers w.tape) (h0 : 0 ≤ k) (h1 : k ≤ 65535) (hm : m ≤ 2048) (hk : k % 2049 = (m : Int)) :
    Calls Ybaf.prog 4 #[.int .u16 k] w fun e w' => e = .returned (.bool true) ∧ Below w.heap.size w w' := by
  have hmake := run_make_row' (P := Ybaf.prog) 22 5 (.int .u8 0) 1 Ybaf.underlying22 (by kernel_rfl) rfl .i64 .i64 m (by omega) (by omega) w
  go_enter Ybaf.func4, Ybaf.ntmps4
  go_wp2_with fail
  simp only [hk]
  clear hk
  go_loopw [5] (fun i wr => ∃ q : Nat, q ≤ m + 1 ∧ i = .int .i64 q ∧ Below w.heap.size w wr) (fun i _ => m + 1 - (intOf i).toNat)
  case atStart => exact ⟨0, Nat.zero_le _, rfl, (Below.refl _ _).alloc (Nat.le_refl _) _⟩
  case round =>
    obtain ⟨q, hq, rfl, hbel⟩ := hrel
    have hFr : F.answers wr.tape := by rw [hbel.tape]; exact hF
    have hs := hbel.size
    clear hmake
    by_cases hlt : q ≤ m
    · have hle : (q : Int) ≤ (m : Int) := by omega
      have hq0 : (0 : Int) ≤ (q : Int) := by omega
      by_cases hz : q = 0
      · subst hz
        go_wp2_with fail
        refine (size_zero F _ _ wr hFr).mono ?_
        rintro e w2 ⟨b, rfl, hB⟩
        go_wp2
        go_roundw
        case rel => exact ⟨1, by omega, by go_num, hbel.trans (hB.mono hs)⟩
        case measure => simp [intOf]
      · have hzb : ((q : Int) != 0) = true := by simp; omega
        have hzc : ((q : Int) == 0) = false := by simp; omega
        go_wp2_with fail
        refine (size_ok _ q _ wr (by omega) (by omega)).mono ?_
        rintro e w2 ⟨rfl, rfl⟩
        go_wp2
        go_roundw
        case rel => exact ⟨q + 1, by omega, by go_num, hbel⟩
        case measure => simp [intOf]; omega
    · have hle : ¬ ((q : Int) ≤ (m : Int)) := by omega
      go_wp2_with fail
      refine (size_zero F _ _ wr hFr).mono ?_
      rintro e w2 ⟨b, rfl, hB⟩
      go_wp2
      go_ret
      exact ⟨rfl, hbel.trans (hB.mono hs)⟩

theorem lengths_any (F : Interp) (k : Int) (w : World) (hF : F.answers w.tape) (h0 : 0 ≤ k) (h1 : k ≤ 65535) :
    Calls Ybaf.prog 4 #[.int .u16 k] w fun e w' => e = .returned (.bool true) ∧ Below w.heap.size w w' :=
  lengths_at F k (k % 2049).toNat w hF h0 h1 (by omega) (by omega)

end Go.Proofs.YbulkbvkgFmt
