/-
  strconv.FormatUint at base 10, from 100 on: the numeral (we keep: some string), and what it leaves of the world.
-/
import Derived.Test.YbulkbviqGreatFmtShelf
import Derived.Lib.Walk
import Derived.Lib.ItoaMem
import Derived.WalkKit
import Derived.BigCall
import Derived.BigGuard
import Derived.Below
import Derived.WalkSmall
set_option linter.unusedVariables false
namespace Go.Proofs.YbulkbviqGreatFmt
open Go.RowKit Go.Sort Go.Lib

/-- The world behind: new blocks, draws. -/
theorem below_fin (w : World) (o : Obj) (dk : Array UInt8) (k : Nat) : Below w.heap.size w ((putRow (fun (b : UInt8) => Value.int .u8 (b.toNat : Int)) (w.alloc o) w.heap.size 0 dk).drewN k) := by
  obtain ⟨os', _, e⟩ := putRow_grow_new (fun (b : UInt8) => Value.int .u8 (b.toNat : Int)) w #[o] w.heap.size 0 dk (Nat.le_refl _)
  rw [alloc_eq_grow, e]
  have hg : Below w.heap.size w (grow w os') := ⟨rfl, rfl, rfl, by simp [grow], fun i hi => by simp [grow, Array.getElem?_append, hi]⟩
  exact below_drewN hg _

theorem holds_zero0 (w : World) (T : TypeId) (nd : Nat) (hs : nd ≤ 24) : Holds (fun (b : UInt8) => Value.int .u8 (b.toNat : Int)) (w.alloc (.cells Lib.zeros24 T)) w.heap.size 0 (Array.replicate nd (0 : UInt8)) := fun j hj => by
  have hj' : j < nd := by simpa using hj
  refine ⟨?_, World.frozen?_alloc_new _ _ _ _⟩
  rw [World.cell?_alloc_new, zeros24_at _ (by omega), getElem!_pos _ j hj]
  simp

set_option maxHeartbeats 6400000 in
set_option maxRecDepth 100000 in
theorem formatUint_in (u : Nat) (hu : 100 ≤ u) (hu64 : u < 18446744073709551616) (w : World) (htab : Lib.TabIs Ybaz.prog w nT .u64 Lib.pow10Tab) :
    Calls Ybaz.prog 64 #[.int .u64 u, .int .i64 10] w fun e w' => ∃ s : ByteArray, e = .returned (.string s) ∧ Below w.heap.size w w' := by
  have hu1 : 1 ≤ u := by omega
  have hnd20 : Lib.nDigits u ≤ 20 := by have := Lib.numDigits_eq u hu1 hu64; split at this <;> omega
  have hal : Ybaz.prog.arrayLen 170 = 24 := by simp [Program.arrayLen, Ybaz.underlying170]
  have hsl : ∀ W, (Instr.sliceAt 170 (.pointer (some ⟨w.heap.size, 0, none⟩)) none (some (.int .i64 (Lib.nDigits u : Int))) none).run Ybaz.prog W = .ok (.slice (some ⟨w.heap.size, 0, none⟩) (Lib.nDigits u) 24) W := fun W => by
    rw [run_sliceAt_array_h W 170 ⟨w.heap.size, 0, none⟩ (by simp [Program.arrayLen, Program.elem, Ybaz.underlying170]) .i64 (Lib.nDigits u : Int) (by omega) (by rw [hal]; omega)]
    go_simp
  have hH0 := holds_zero0 w 170 (Lib.nDigits u) (by omega)
  have hfmt := Ybaz.formatBase10 w.heap.size 0 24 u (Array.replicate (Lib.nDigits u) 0) (w.alloc (.cells Lib.zeros24 170)) hH0 (by rw [Array.size_replicate]; exact Lib.lt_pow_nDigits u) hu64 (by rw [Array.size_replicate]; omega)
  rw [Array.size_replicate] at hfmt
  have HH0 := Lib.hid hH0
  have h100 : ¬ ((u : Int) < 100) := by omega
  clear hH0 hal
  go_enter Ybaz.func64, Ybaz.ntmps64
  go_wp2_with (first
    | (go_at_call 92; refine (Ybaz.numDigits u hu1 hu64 _ (Lib.tabIs_alloc htab _)).mono ?_; rintro e w' ⟨rfl, rfl⟩))
  refine hfmt.mono ?_
  rintro e w' ⟨rfl, k, v', dk, rfl, hF⟩
  have hcv : (convert 173 9 (.slice (some ⟨w.heap.size, 0, none⟩) (Lib.nDigits u) 24)).run Ybaz.prog ((putRow (fun (b : UInt8) => Value.int .u8 (b.toNat : Int)) (w.alloc (.cells Lib.zeros24 170)) w.heap.size 0 dk).drewN k) = .ok (.string ⟨(Lib.decDigits u).toArray⟩) ((putRow (fun (b : UInt8) => Value.int .u8 (b.toNat : Int)) (w.alloc (.cells Lib.zeros24 170)) w.heap.size 0 dk).drewN k) := by
    have h := run_convert_bytes_back (P := Ybaz.prog) ((putRow (fun (b : UInt8) => Value.int .u8 (b.toNat : Int)) (w.alloc (.cells Lib.zeros24 170)) w.heap.size 0 dk).drewN k) 173 9 5 ⟨w.heap.size, 0, none⟩ 24 (Lib.decDigits u) Ybaz.underlying173 Ybaz.underlying5 Ybaz.underlying9 (fun j hj => by
      rw [Lib.row_is_numeral hF j hj, Lib.add_plain, World.cell?_drewN]
      exact cell?_putRow (fun (b : UInt8) => Value.int .u8 (b.toNat : Int)) _ w.heap.size 0 _ dk HH0.out (by rw [hF.size, Array.size_replicate]) j (by rw [hF.size]; rw [Lib.decDigits_length] at hj; exact hj))
    rw [Lib.decDigits_length] at h
    exact h
  go_wp2
  go_ret
  exact ⟨_, rfl, below_fin w _ dk k⟩

set_option maxRecDepth 100000 in
theorem formatUint (u : Nat) (hu : 100 ≤ u) (hu64 : u < 18446744073709551616) (w : World) (htab : Lib.TabIs Ybaz.prog w nT .u64 Lib.pow10Tab) :
    Calls Ybaz.prog 31 #[.int .u64 u, .int .i64 10] w fun e w' => ∃ s : ByteArray, e = .returned (.string s) ∧ Below w.heap.size w w' := by
  have k := formatUint_in u hu hu64 w htab
  clear htab
  go_enter Ybaz.func31, Ybaz.ntmps31
  go_wp2_with fail
  refine k.mono ?_
  rintro e w1 ⟨s, rfl, hB⟩
  go_wp2
  go_ret
  exact ⟨_, rfl, hB⟩

end Go.Proofs.YbulkbviqGreatFmt
