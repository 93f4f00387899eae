/-
  The law lawS3591ACheckLapse: the arguments opened, and the told and tied card by the guide's builder.
-/
import Derived.Test.YbulkbviqGreatFmtCards
import Derived.Test.YbulkbviqGreatFmtTie
import Derived.Test.YbulkbviqGreatFmtOpen
import Derived.Test.YbulkbviqGreatFmtLaw4
import Derived.WalkSmall
import Derived.SevenTiedAt
namespace Go.Proofs.YbulkbviqGreatFmt.lawS3591ACheckLapse
open Go.ChangeShapes Go.WideShapes Go.ChangeAt Go.RowKit Go.Kit
open Go.Extern.Stop Go.Stop Go.Extern
set_option linter.unusedVariables false

set_option maxRecDepth 100000 in
set_option maxHeartbeats 1600000 in
theorem lifted (os : Os) (started : os.Started) (H : Type) (enc : TypeId × Value → H) :
    ReturnsInTold none {} Ybaz.checked os 4 .any Input.okWide ((OpenSpec.ofChange Rows.lawS3591ACheckLapseSpec).preRow enc Ybaz.prog Ybaz.f4 [] false laid5) (fun F => ((OpenSpec.ofChange Rows.lawS3591ACheckLapseSpec).at F).post enc Ybaz.prog Ybaz.f4 false true false false) (aloneAtReturn Ybaz.prog) nothingAlways := by
  refine returnsInTold_of_row (C := Ybaz.checked) (s := OpenSpec.ofChange Rows.lawS3591ACheckLapseSpec) (by kernel_rfl) own started (by kernel_rfl) Ybaz.func4
    (OpenSpec.witness_stopped_at (enc := enc) (C := Ybaz.checked) false (laidOf Ybaz.prog os) #[.int .u8 0, .agg (msgV 0 ByteArray.empty 0 ByteArray.empty ByteArray.empty ByteArray.empty ByteArray.empty 0 ByteArray.empty ByteArray.empty 0 0 ByteArray.empty 0)] rfl (by kernel_rfl) (by kernel_rfl) (by kernel_rfl)
      (OpenSpec.preRow_of_B rfl 8 (by kernel_rfl) (by kernel_rfl) (laid_met os _))) ?_
  intro F W base args ds gs before _ hF hval0 hW _ _ _ hL _
  have hval : ∀ (j : Nat) t v, Ybaz.f4.params[j]? = some t → args[j]? = some v → Value.okWide Ybaz.prog W .any base t v := hval0
  have hW' := hW
  obtain ⟨p, q, hA0, hV0, rfl, hfz, hnd⟩ := hW
  have hA : DataW.TrodAll enc Ybaz.prog W 0 (fun _ => true) true Ybaz.f4.params.toList args.toList ds p := hA0
  have hV : DataW.TrodVars enc Ybaz.prog W (fun _ => true) [nI, nN] gs q := hV0
  rw [Ybaz.params4] at hA hval
  obtain ⟨v0, vs0, d0, ds0, p0, q0, hargs, rfl, rfl, h0, r0⟩ := trodAll_cons hA
  obtain ⟨v1, vs1, d1, ds1, p1, q1, rfl, rfl, rfl, h1, r1⟩ := trodAll_cons r0
  obtain ⟨rfl, rfl, rfl⟩ := trodAll_nil r1
  obtain rfl : args = #[v0, v1] := by cases args; simp_all
  obtain ⟨aN, aI, sN, sI, hvN, hvI, hcI⟩ := laid_errs hL
  obtain ⟨rfl, rfl⟩ := hV.unique (vars_read2 enc gI gIType Ybaz.underlying55 hvI trivial gN gNType Ybaz.underlying55 hvN trivial _)
  have kM := h1
  have ltM : ∀ x ∈ p1, x.block < W.heap.size := by obtain ⟨m, hm⟩ := kM; exact DataW.trod_lt m _ _ _ hm
  obtain ⟨n0, rfl, rfl, rfl, w0⟩ := open_int Ybaz.underlying5 (hval 0 5 v0 rfl rfl) h0
  obtain ⟨kind, ini, search, snd, frm, rcv, site, hops, mx, mxs, maxCost, walk, iniSite, floor, rfl, li, ls, lr, lm, lt, wc⟩ := open_msg (hval 1 25 v1 rfl rfl) h1
  clear hA0 hV0 hval0
  have hg : W.cell? ⟨0, 0, none⟩ = some (.iface 131 (.pointer (some aI))) := by simpa using World.var?_cell gI hvI 0
  have hltI : aI.block < W.heap.size := by
    rcases Nat.lt_or_ge aI.block W.heap.size with h | h
    · exact h
    · simp [World.cell?, Array.getElem?_eq_none h] at hcI
  have h0lt : 0 < W.heap.size := Nat.lt_of_le_of_lt (Nat.zero_le _) hltI
  have h1lt : 1 < W.heap.size := by
    rcases Nat.lt_or_ge 1 W.heap.size with h | h
    · exact h
    · have hN := World.var?_cell gN hvN 0
      simp [World.cell?, Array.getElem?_eq_none h] at hN
  refine (law4_any (F := F.told) n0 kind search hops maxCost walk floor ini snd frm rcv site mx mxs iniSite li ls lr lm lt hF hg h0lt hcI hltI).mono fun e W' ⟨he, bel⟩ => ?_
  subst he
  refine ⟨_, rfl, _, _, _, [], _, _, hW', trodAll_mk1 (shut_bool Ybaz.underlying4 _), trodAll_cons_mk (shut_int Ybaz.underlying5 w0) (trodAll_cons_mk (Below.trod laidOut (by kernel_rfl) (of_decide_eq_true (by kernel_rfl)) kM bel ltM) trodAll_mk0), vars_read2 enc gI gIType Ybaz.underlying55 (var?_below bel gI h0lt hvI) trivial gN gNType Ybaz.underlying55 (var?_below bel gN h1lt hvN) trivial _, bel.frame _, fun h => by cases h⟩

/-- THE STATEMENT -/
theorem proved : Rows.LawS3591ACheckLapseToldSaid :=
  Claim7.holds_of_told_tied_any_at .later 4 Ybaz.f4 "fmt.errorf" [] [] _ _ _ _ _ (by kernel_rfl) rfl rfl rfl laidOut' (by kernel_rfl) rfl ⟨rfl, rfl, rfl, rfl, rfl, rfl, rfl⟩ rfl rfl (by kernel_rfl) (by kernel_rfl) Ybaz.func4 (by kernel_rfl)
    (of_decide_eq_true (by kernel_rfl)) (by unfold Func.isWrapper; first | (rw [if_pos (by decide +kernel)]; kernel_rfl) | (rw [if_neg (by decide +kernel)]; exact ⟨rfl, rfl⟩)) stops.symm rfl stopKnobs.symm (by kernel_rfl)
    (by kernel_rfl) (by kernel_rfl) (by kernel_rfl) (by kernel_rfl) (by kernel_rfl) (by kernel_rfl) (by kernel_rfl) (by kernel_rfl) (by kernel_rfl) rfl (by kernel_rfl) rfl rfl
    rfl rfl
    rfl (by kernel_rfl) (by kernel_rfl) (by kernel_rfl) (by decide) (by kernel_rfl) lawS3591ACheckLapse_row_tie
    (OpenClaim.moreEntering_of (by kernel_rfl) (by kernel_rfl) (by kernel_rfl) (by kernel_rfl) (by kernel_rfl) (by kernel_rfl) (by kernel_rfl) (by kernel_rfl) (by kernel_rfl) (by kernel_rfl))
    ⟨_, WideRow.started_initial, quiet _⟩
    (fun os started _ H enc _ => lifted os started H enc)
#print axioms proved
end Go.Proofs.YbulkbviqGreatFmt.lawS3591ACheckLapse
