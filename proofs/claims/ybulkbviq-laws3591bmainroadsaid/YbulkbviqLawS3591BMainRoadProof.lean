/-
  The law LawS3591BMainRoad: the cases joined, the one argument opened, and the row's step by the guide's frame.
-/
import Derived.Test.YbulkbviqRows
import Derived.WalkKit
import Derived.ProofKit
import Derived.OpenShut
import Derived.ShutString
import Derived.ChangeOld
import Derived.Below
import Derived.Carry
import Derived.Deep.Slices
import Derived.Deep.Strs
import Derived.Test.YbulkbviqTop1
import Derived.Test.YbulkbviqTop2
import Derived.Test.YbulkbviqTop3
import Derived.Test.YbulkbviqTop4
import Derived.Test.YbulkbviqTop5
import Derived.Test.YbulkbviqTop6
import Derived.Test.YbulkbviqTop10
import Derived.Test.YbulkbviqTop7
import Derived.Test.YbulkbviqTop8
import Derived.Test.YbulkbviqTop9
import Derived.Test.YbulkbviqTop11
import Derived.Test.YbulkbviqTop12
namespace Go.Proofs.Ybulkbviq.lawS3591BMainRoad
open Go.ChangeShapes Go.WideShapes Go.ChangeAt Go.RowKit Go.Deep
open Go.Proofs.Ybulkbviq
set_option linter.unusedVariables false

theorem own : ownKnob Yba.prog.godebug = none := by kernel_rfl
theorem laidOut : laidOutB Yba.prog = true := by kernel_rfl
theorem cells24 : Yba.prog.cellsOf 24 = 13 := by kernel_rfl
theorem cells22 : Yba.prog.cellsOf 22 = 1 := by kernel_rfl
theorem cells9 : Yba.prog.cellsOf 9 = 1 := by kernel_rfl
theorem cells4 : Yba.prog.cellsOf 4 = 1 := by kernel_rfl
theorem cells3 : Yba.prog.cellsOf 3 = 1 := by kernel_rfl

set_option maxRecDepth 100000 in
/-- The one argument, opened: thirteen fields of one cell each. -/
theorem open_in {H : Type} {enc : TypeId × Value → H} {W : World} {r : Reach} {b0 : Nat} {v : Value} {d : DataW H} {p : List MemPlace} (hv : Value.okWide Yba.prog W r b0 24 v) (h : DataW.Trod enc Yba.prog W 0 (fun _ => true) true 24 v d p) :
    ∃ (costA maxCost waitedAt walkNum cWalk sent number floor : Int) (maxName maxSite : ByteArray) (D U : Bool) (back : Int), v = .agg (inV costA maxCost waitedAt walkNum cWalk sent number floor maxName maxSite D U back) := by
  obtain ⟨cs, rfl, hsz⟩ := okWide_struct Yba.underlying24 hv
  rw [cells24] at hsz
  obtain ⟨fuel, hf⟩ := h
  obtain ⟨xs, n, _, _, _, hlen, hfl⟩ := DataW.trod_struct Yba.underlying24 hf
  match cs, hsz with
  | ⟨[c0, c1, c2, c3, c4, c5, c6, c7, c8, c9, c10, c11, c12]⟩, _ =>
    simp only [Value.cells] at hfl
    have g0 := (hfl 0 _ rfl).trans (List.getElem?_eq_getElem (by simp at hlen; omega))
    have g1 := (hfl 1 _ rfl).trans (List.getElem?_eq_getElem (by simp at hlen; omega))
    have g2 := (hfl 2 _ rfl).trans (List.getElem?_eq_getElem (by simp at hlen; omega))
    have g3 := (hfl 3 _ rfl).trans (List.getElem?_eq_getElem (by simp at hlen; omega))
    have g4 := (hfl 4 _ rfl).trans (List.getElem?_eq_getElem (by simp at hlen; omega))
    have g5 := (hfl 5 _ rfl).trans (List.getElem?_eq_getElem (by simp at hlen; omega))
    have g6 := (hfl 6 _ rfl).trans (List.getElem?_eq_getElem (by simp at hlen; omega))
    have g7 := (hfl 7 _ rfl).trans (List.getElem?_eq_getElem (by simp at hlen; omega))
    have g8 := (hfl 8 _ rfl).trans (List.getElem?_eq_getElem (by simp at hlen; omega))
    have g9 := (hfl 9 _ rfl).trans (List.getElem?_eq_getElem (by simp at hlen; omega))
    have g10 := (hfl 10 _ rfl).trans (List.getElem?_eq_getElem (by simp at hlen; omega))
    have g11 := (hfl 11 _ rfl).trans (List.getElem?_eq_getElem (by simp at hlen; omega))
    have g12 := (hfl 12 _ rfl).trans (List.getElem?_eq_getElem (by simp at hlen; omega))
    obtain ⟨a0, e0, _, _⟩ := DataW.trod_int Yba.underlying22 g0
    obtain ⟨a1, e1, _, _⟩ := DataW.trod_int Yba.underlying22 g1
    obtain ⟨a2, e2, _, _⟩ := DataW.trod_int Yba.underlying22 g2
    obtain ⟨a3, e3, _, _⟩ := DataW.trod_int Yba.underlying22 g3
    obtain ⟨a4, e4, _, _⟩ := DataW.trod_int Yba.underlying22 g4
    obtain ⟨a5, e5, _, _⟩ := DataW.trod_int Yba.underlying22 g5
    obtain ⟨a6, e6, _, _⟩ := DataW.trod_int Yba.underlying22 g6
    obtain ⟨a7, e7, _, _⟩ := DataW.trod_int Yba.underlying22 g7
    obtain ⟨a8, e8, _, _⟩ := DataW.trod_string Yba.underlying9 g8
    obtain ⟨a9, e9, _, _⟩ := DataW.trod_string Yba.underlying9 g9
    obtain ⟨a10, e10, _⟩ := DataW.trod_bool Yba.underlying4 g10
    obtain ⟨a11, e11, _⟩ := DataW.trod_bool Yba.underlying4 g11
    obtain ⟨a12, e12, _, _⟩ := DataW.trod_int Yba.underlying3 g12
    simp [cells22, cells9, cells4, cells3] at e0 e1 e2 e3 e4 e5 e6 e7 e8 e9 e10 e11 e12
    subst e0 e1 e2 e3 e4 e5 e6 e7 e8 e9 e10 e11 e12
    exact ⟨a0, a1, a2, a3, a4, a5, a6, a7, a8, a9, a10, a11, a12, rfl⟩

theorem toList97 : ByteArray.toList ⟨#[97]⟩ = [97] := by first | rfl | decide | kernel_rfl

/-- Every input: true, and nothing that was there is changed. -/
theorem walk (costA maxCost waitedAt walkNum cWalk sent number floor : Int) (maxName maxSite : ByteArray) (D U : Bool) (back : Int) (w : World) :
    Calls Yba.prog 3 #[.agg (inV costA maxCost waitedAt walkNum cWalk sent number floor maxName maxSite D U back)] w fun e w' => e = .returned (.bool true) ∧ Below w.heap.size w w' := by
  by_cases hc : cWalk = walkNum
  · subst hc
    cases U with
    | true =>
      cases D with
      | true => exact law_noSender_t _ _ _ _ _ _ _ _ _ _ _
      | false => exact law_noSender_f _ _ _ _ _ _ _ _ _ _ _
    | false =>
      by_cases hy : waitedAt < cWalk
      · have tri : costA < maxCost ∨ maxCost < costA ∨ costA = maxCost := by omega
        have gts : (gtB ⟨#[97]⟩ maxName = true ∧ Op.bytesLess [97] maxName.toList = false ∧ ([97] == maxName.toList) = false) ∨ (gtB ⟨#[97]⟩ maxName = false ∧ Op.bytesLess [97] maxName.toList = true) ∨ (gtB ⟨#[97]⟩ maxName = false ∧ ([97] == maxName.toList) = true) := by
          unfold gtB
          rw [toList97]
          cases Op.bytesLess [97] maxName.toList <;> cases ([97] == maxName.toList) <;> simp
        cases D with
        | false =>
          rcases tri with h | h | h
          · exact law_on_lt _ _ _ _ _ _ _ _ _ _ _ hy h
          · exact law_on_gt _ _ _ _ _ _ _ _ _ _ _ hy h
          · subst h
            rcases gts with ⟨h1, h2, h3⟩ | ⟨h1, h2⟩ | ⟨h1, h2⟩
            · exact law_on_eqgt _ _ _ _ _ _ _ _ _ _ hy h1 h2 h3
            · exact law_on_eqlt _ _ _ _ _ _ _ _ _ _ hy h1 h2
            · exact law_on_eqeq _ _ _ _ _ _ _ _ _ _ hy h1 h2
        | true =>
          by_cases hb : back = 0
          · subst hb
            exact law_noBack _ _ _ _ _ _ _ _ _ _ hy
          · have hbk : (back == 0) = false := by simpa using hb
            rcases tri with h | h | h
            · exact law_dec_lt _ _ _ _ _ _ _ _ _ _ _ hy hbk h
            · exact law_dec_gt _ _ _ _ _ _ _ _ _ _ _ hy hbk h
            · subst h
              rcases gts with ⟨h1, h2, h3⟩ | ⟨h1, h2⟩ | ⟨h1, h2⟩
              · exact law_dec_eqgt _ _ _ _ _ _ _ _ _ _ hy hbk h1 h2 h3
              · exact law_dec_eqlt _ _ _ _ _ _ _ _ _ _ hy hbk h1 h2
              · exact law_dec_eqeq _ _ _ _ _ _ _ _ _ _ hy hbk h1 h2
      · cases D with
        | true => exact law_young_t _ _ _ _ _ _ _ _ _ _ _ (by omega)
        | false => exact law_young_f _ _ _ _ _ _ _ _ _ _ _ (by omega)
  · have hne : (cWalk == walkNum) = false := by simpa using hc
    cases D <;> cases U
    · exact law_noWalk_ff _ _ _ _ _ _ _ _ _ _ _ _ hne
    · exact law_noWalk_ft _ _ _ _ _ _ _ _ _ _ _ _ hne
    · exact law_noWalk_tf _ _ _ _ _ _ _ _ _ _ _ _ hne
    · exact law_noWalk_tt _ _ _ _ _ _ _ _ _ _ _ _ hne

set_option maxRecDepth 100000 in
theorem lifted (os : Os) (started : os.Started) (H : Type) (enc : TypeId × Value → H) :
    ReturnsInHanded {} Yba.checked os 3 .any (Rows.lawS3591BMainRoadSpec.pre6 enc Yba.prog Yba.f3 Rows.lawS3591BMainRoadRow.domain false) (Rows.lawS3591BMainRoadSpec.post enc Yba.prog Yba.f3 false true false false) := by
  refine returnsInHanded_of_change (C := Yba.checked) own started (by kernel_rfl) Yba.func3
    (ChangeSpec.witness6 (enc := enc) (C := Yba.checked) false ⟨#[], #[.agg #[.int .u64 0, .int .u64 0, .int .u64 0, .int .u64 0, .int .u64 0, .int .u64 0, .int .u64 0, .int .u64 0, .string ByteArray.empty, .string ByteArray.empty, .bool false, .bool false, .int .i64 0]], []⟩ 8 (by kernel_rfl) (by kernel_rfl) (by kernel_rfl) (by kernel_rfl)) ?_
  intro W base args ds gs before hval0 hW hcnd _
  have hval : ∀ (j : Nat) t v, Yba.f3.params[j]? = some t → args[j]? = some v → Value.okWide Yba.prog W .any base t v := hval0
  have hW' := hW
  obtain ⟨p, q, hA0, hV, rfl, hfz, hnd⟩ := hW
  have hA : DataW.TrodAll enc Yba.prog W 0 (fun _ => true) true Yba.f3.params.toList args.toList ds p := hA0
  rw [Yba.params3] at hA hval
  obtain ⟨v0, vs0, d0, ds0, p0, q0, hargs, rfl, rfl, h0, r0⟩ := trodAll_cons hA
  obtain ⟨rfl, rfl, rfl⟩ := trodAll_nil r0
  obtain rfl : args = #[v0] := by cases args; simp_all
  obtain ⟨rfl, rfl⟩ := trodVars_none hV
  have k0 := h0
  have lt0 : ∀ x ∈ p0, x.block < W.heap.size := by obtain ⟨m, hm⟩ := k0; exact DataW.trod_lt m _ _ _ hm
  obtain ⟨a0, a1, a2, a3, a4, a5, a6, a7, a8, a9, a10, a11, a12, rfl⟩ := open_in (hval 0 24 v0 rfl rfl) h0
  clear hA0 hval0
  refine (walk a0 a1 a2 a3 a4 a5 a6 a7 a8 a9 a10 a11 a12 W).mono fun e W' ⟨he, bel⟩ => ?_
  subst he
  exact ⟨_, rfl, _, _, _, [], _, [], hW', trodAll_mk1 (shut_bool Yba.underlying4 _), (trodAll_cons_mk (Below.trod laidOut (by kernel_rfl) (of_decide_eq_true (by kernel_rfl)) k0 bel lt0) trodAll_mk0), rfl, bel.frame _, fun h => by cases h⟩

theorem over : Rows.lawS3591BMainRoadRow.holds Yba.pinned (OpenSpec.ofChange Rows.lawS3591BMainRoadSpec) :=
  OpenClaim.holds_of_wide 3 Yba.f3 rfl rfl rfl rfl rfl rfl rfl ⟨rfl, rfl, rfl, rfl, rfl⟩ rfl rfl rfl rfl rfl (by kernel_rfl) Yba.func3 (by kernel_rfl)
    (of_decide_eq_true (by kernel_rfl)) (by unfold Func.isWrapper; first | (rw [if_pos (by decide +kernel)]; kernel_rfl) | (rw [if_neg (by decide +kernel)]; exact ⟨rfl, rfl⟩))
    (fun os started H enc _ => lifted os started H enc)

/-- THE STATEMENT -/
theorem proved : Rows.LawS3591BMainRoadSaid :=
  over
#print axioms proved
end Go.Proofs.Ybulkbviq.lawS3591BMainRoad
