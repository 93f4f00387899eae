/-
  The law LawS3591CRing: the slice of waits opened, the long slices, and the row's step by the guide's frame.
-/
import Derived.Test.YbulkbviqRows
import Derived.WalkKit
import Derived.ProofKit
import Derived.OpenShut
import Derived.ShutString
import Derived.ChangeOld
import Derived.Below
import Derived.Carry
import Derived.Deep.Slices
import Derived.Deep.Strs
import Derived.Test.YbulkbviqRing
namespace Go.Proofs.Ybulkbviq.lawS3591CRing
open Go.ChangeShapes Go.WideShapes Go.ChangeAt Go.RowKit Go.Deep
open Go.ChangeMaps (open_string shut_string)
set_option linter.unusedVariables false

theorem own : ownKnob Yba.prog.godebug = none := by kernel_rfl
theorem laidOut : laidOutB Yba.prog = true := by kernel_rfl
theorem cells80 : Yba.prog.cellsOf 80 = 3 := by kernel_rfl
theorem cells9 : Yba.prog.cellsOf 9 = 1 := by kernel_rfl

set_option maxRecDepth 100000 in
/-- What the walk is told of the slice of waits. -/
theorem open_waits {H : Type} {enc : TypeId × Value → H} {W : World} {a : Option Addr} {n cap : Nat} {d : DataW H} {p : List MemPlace} (h : DataW.Trod enc Yba.prog W 0 (fun _ => true) true 78 (.slice a n cap) d p) :
    n ≤ maxLen ∧ ∃ Wt Pr St : Nat → ByteArray, 0 < n → ∃ b off, a = some ⟨b, off, none⟩ ∧ b < W.heap.size ∧ ∀ i, i < n → W.cell? ⟨b, off + i * 3, none⟩ = some (.string (Wt i)) ∧ W.cell? ⟨b, off + i * 3 + 1, none⟩ = some (.string (Pr i)) ∧ W.cell? ⟨b, off + i * 3 + 2, none⟩ = some (.string (St i)) := by
  obtain ⟨fuel, hf⟩ := h
  rcases open_slice Yba.underlying78 hf with ⟨hcs, _⟩ | ⟨x, l, c, m, k, D, Pl, hcs, _, hl, hm, hmm, _, hx⟩
  · simp [Value.cells] at hcs
    obtain ⟨_, rfl, _⟩ := hcs
    exact ⟨Nat.zero_le _, fun _ => default, fun _ => default, fun _ => default, fun h => by omega⟩
  · simp [Value.cells] at hcs
    obtain ⟨rfl, rfl, rfl⟩ := hcs
    simp at hmm
    subst hmm
    refine ⟨by omega, ?_⟩
    have each : ∀ i, i < n → ∃ t : ByteArray × ByteArray × ByteArray, W.cell? ((x.add (i * 3)).add 0) = some (.string t.1) ∧ W.cell? ((x.add (i * 3)).add 1) = some (.string t.2.1) ∧ W.cell? ((x.add (i * 3)).add 2) = some (.string t.2.2) := fun i hi => by
      obtain ⟨cs, h1, h2⟩ := hx i (by omega)
      rw [cells80] at h1
      obtain ⟨_, hlen, hget⟩ := World.cells?_some h1
      obtain ⟨y0, y1, y2, q, _, _, g0, g1, g2⟩ := trod_struct3 Yba.underlying80 h2
      match cs, hlen with
      | [c0, c1, c2], _ =>
        obtain ⟨s0, e0, _, _⟩ := DataW.trod_string Yba.underlying9 g0
        obtain ⟨s1, e1, _, _⟩ := DataW.trod_string Yba.underlying9 g1
        obtain ⟨s2, e2, _, _⟩ := DataW.trod_string Yba.underlying9 g2
        simp [cells9] at e0 e1 e2
        subst e0 e1 e2
        exact ⟨(s0, s1, s2), hget 0 (by omega), hget 1 (by omega), hget 2 (by omega)⟩
    obtain ⟨F, hF⟩ := choose_lt each
    refine ⟨fun i => (F i).1, fun i => (F i).2.1, fun i => (F i).2.2, fun hn => ?_⟩
    have h00 := (hF 0 hn).1
    obtain ⟨b, off, sp⟩ := x
    have hsp : sp = none := by
      cases sp with
      | none => rfl
      | some y => simp [World.cell?, Addr.add] at h00; split at h00 <;> simp at h00
    subst hsp
    refine ⟨b, off, rfl, ?_, fun i hi => ?_⟩
    · have := World.block_lt_of_cell? W _ h00
      simpa [Addr.add] using this
    · have := hF i hi
      rw [add_add, add_add, add_add] at this
      have hadd : ∀ j, (⟨b, off, none⟩ : Addr).add j = ⟨b, off + j, none⟩ := fun j => by unfold Addr.add; split <;> simp_all
      simp only [hadd, Nat.add_zero] at this
      exact ⟨this.1, this.2.1, this.2.2⟩

/-- A long slice: the law looks no further. -/
theorem walk_long (site home ini vic : ByteArray) (num : Int) (a : Option Addr) (n cap : Nat) (w : World) (hn : 1024 < n) (hm : n ≤ maxLen) :
    Calls Yba.prog 5 #[.string site, .string home, .string ini, .int .u64 num, .string vic, .slice a n cap] w fun e w' => e = .returned (.bool true) ∧ Below w.heap.size w w' := by
  have hi : (1024 : Int) < (n : Int) := by omega
  unfold maxLen at hm
  go_enter Yba.func5, Yba.ntmps5
  go_wp2
  go_ret
  exact ⟨rfl, Below.refl _ _⟩

set_option maxRecDepth 100000 in
theorem lifted (os : Os) (started : os.Started) (H : Type) (enc : TypeId × Value → H) :
    ReturnsInHanded {} Yba.checked os 5 .any (Rows.lawS3591CRingSpec.pre6 enc Yba.prog Yba.f5 Rows.lawS3591CRingRow.domain false) (Rows.lawS3591CRingSpec.post enc Yba.prog Yba.f5 false true false false) := by
  refine returnsInHanded_of_change (C := Yba.checked) own started (by kernel_rfl) Yba.func5
    (ChangeSpec.witness6 (enc := enc) (C := Yba.checked) false ⟨#[], #[.string ByteArray.empty, .string ByteArray.empty, .string ByteArray.empty, .int .u64 0, .string ByteArray.empty, .slice none 0 0], []⟩ 8 (by kernel_rfl) (by kernel_rfl) (by kernel_rfl) (by kernel_rfl)) ?_
  intro W base args ds gs before hval0 hW hcnd _
  have hval : ∀ (j : Nat) t v, Yba.f5.params[j]? = some t → args[j]? = some v → Value.okWide Yba.prog W .any base t v := hval0
  have hW' := hW
  obtain ⟨p, q, hA0, hV, rfl, hfz, hnd⟩ := hW
  have hA : DataW.TrodAll enc Yba.prog W 0 (fun _ => true) true Yba.f5.params.toList args.toList ds p := hA0
  rw [Yba.params5] at hA hval
  obtain ⟨v0, vs0, d0, ds0, p0, q0, hargs, rfl, rfl, h0, r0⟩ := trodAll_cons hA
  obtain ⟨v1, vs1, d1, ds1, p1, q1, rfl, rfl, rfl, h1, r1⟩ := trodAll_cons r0
  obtain ⟨v2, vs2, d2, ds2, p2, q2, rfl, rfl, rfl, h2, r2⟩ := trodAll_cons r1
  obtain ⟨v3, vs3, d3, ds3, p3, q3, rfl, rfl, rfl, h3, r3⟩ := trodAll_cons r2
  obtain ⟨v4, vs4, d4, ds4, p4, q4, rfl, rfl, rfl, h4, r4⟩ := trodAll_cons r3
  obtain ⟨v5, vs5, d5, ds5, p5, q5, rfl, rfl, rfl, h5, r5⟩ := trodAll_cons r4
  obtain ⟨rfl, rfl, rfl⟩ := trodAll_nil r5
  obtain rfl : args = #[v0, v1, v2, v3, v4, v5] := by cases args; simp_all
  obtain ⟨rfl, rfl⟩ := trodVars_none hV
  obtain ⟨a0, rfl, rfl, rfl, w0⟩ := open_string Yba.underlying9 (hval 0 9 v0 rfl rfl) h0
  obtain ⟨a1, rfl, rfl, rfl, w1⟩ := open_string Yba.underlying9 (hval 1 9 v1 rfl rfl) h1
  obtain ⟨a2, rfl, rfl, rfl, w2⟩ := open_string Yba.underlying9 (hval 2 9 v2 rfl rfl) h2
  obtain ⟨a3, rfl, rfl, rfl, w3⟩ := open_int Yba.underlying22 (hval 3 22 v3 rfl rfl) h3
  obtain ⟨a4, rfl, rfl, rfl, w4⟩ := open_string Yba.underlying9 (hval 4 9 v4 rfl rfl) h4
  obtain ⟨a5, len5, cap5, rfl⟩ := okWide_slice Yba.underlying78 (hval 5 78 v5 rfl rfl)
  have k5 := h5
  have lt5 : ∀ x ∈ p5, x.block < W.heap.size := by obtain ⟨m, hm⟩ := k5; exact DataW.trod_lt m _ _ _ hm
  obtain ⟨hmax, Wt, Pr, St, hop⟩ := open_waits h5
  clear hA0 hval0
  have fin : Calls Yba.prog 5 #[.string a0, .string a1, .string a2, .int .u64 a3, .string a4, .slice a5 len5 cap5] W fun e w' => e = .returned (.bool true) ∧ Below W.heap.size W w' := by
    by_cases hl : len5 ≤ 1024
    · exact ring_walk a0 a1 a2 a4 a3 a5 len5 cap5 Wt Pr St W hl hop
    · exact walk_long a0 a1 a2 a4 a3 a5 len5 cap5 W (by omega) hmax
  refine fin.mono fun e W' ⟨he, bel⟩ => ?_
  subst he
  exact ⟨_, rfl, _, _, _, [], _, [], hW', trodAll_mk1 (shut_bool Yba.underlying4 _), (trodAll_cons_mk (shut_string Yba.underlying9 w0) (trodAll_cons_mk (shut_string Yba.underlying9 w1) (trodAll_cons_mk (shut_string Yba.underlying9 w2) (trodAll_cons_mk (shut_int Yba.underlying22 w3) (trodAll_cons_mk (shut_string Yba.underlying9 w4) (trodAll_cons_mk (Below.trod laidOut (by kernel_rfl) (of_decide_eq_true (by kernel_rfl)) k5 bel lt5) trodAll_mk0)))))), rfl, bel.frame _, fun h => by cases h⟩

theorem over : Rows.lawS3591CRingRow.holds Yba.pinned (OpenSpec.ofChange Rows.lawS3591CRingSpec) :=
  OpenClaim.holds_of_wide 5 Yba.f5 rfl rfl rfl rfl rfl rfl rfl ⟨rfl, rfl, rfl, rfl, rfl⟩ rfl rfl rfl rfl rfl (by kernel_rfl) Yba.func5 (by kernel_rfl)
    (of_decide_eq_true (by kernel_rfl)) (by unfold Func.isWrapper; first | (rw [if_pos (by decide +kernel)]; kernel_rfl) | (rw [if_neg (by decide +kernel)]; exact ⟨rfl, rfl⟩))
    (fun os started H enc _ => lifted os started H enc)

/-- THE STATEMENT -/
theorem proved : Rows.LawS3591CRingSaid :=
  over
#print axioms proved
end Go.Proofs.Ybulkbviq.lawS3591CRing
