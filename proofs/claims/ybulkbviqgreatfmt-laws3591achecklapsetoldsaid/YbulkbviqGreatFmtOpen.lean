/-
  The argument opened; what the listed variables say; a world in which they lie so.
-/
import Derived.Test.YbulkbviqGreatFmtRows
import Derived.Test.YbulkbviqGreatFmtMsg
import Derived.Test.YbulkbviqGreatFmtName
import Derived.ProofKit
import Derived.OpenShut
import Derived.ChangeOld
import Derived.Below
import Derived.Carry
import Derived.Stop.JoinedAt
import Derived.Stop.Texts
import Derived.Stop.ErrReads
import Derived.Stop.JoinedTold
import Derived.Stop.LaidErr
import Derived.Stop.LaidTwo
import Derived.LaidSub
import Derived.Lib.LaidIn
import Derived.Lib.LaidTab
import Derived.Lib.ItoaNum
import Derived.SevenToldRow
namespace Go.Proofs.YbulkbviqGreatFmt
open Go.ChangeShapes Go.WideShapes Go.ChangeAt Go.RowKit Go.Kit
open Go.Extern.Stop Go.Stop Go.Extern
set_option linter.unusedVariables false

theorem own : ownKnob Ybaz.prog.godebug = none := by kernel_rfl
theorem laidOut : laidOutB Ybaz.prog = true := by kernel_rfl
theorem laidOut' : laidOutB Ybaz.pinned.checked.prog = true := by kernel_rfl
theorem stops : Ybaz.pinned.checked.prog.stops = ["fmt.errorf"] := by kernel_rfl
theorem stopKnobs : Ybaz.pinned.checked.prog.stopKnobs = [] := by kernel_rfl
theorem quiet (os : Os) : Stop.quiet Ybaz.pinned.checked.prog os := by
  intro k hk
  rw [stopKnobs] at hk
  cases hk
theorem gI : Ybaz.prog.globalNamed nI = some 0 := by kernel_rfl
theorem gIType : (Ybaz.prog.globals[0]?).map (·.type) = some 55 := by kernel_rfl
theorem gN : Ybaz.prog.globalNamed nN = some 1 := by kernel_rfl
theorem gNType : (Ybaz.prog.globals[1]?).map (·.type) = some 55 := by kernel_rfl
theorem cells133 : Ybaz.prog.cellsOf 133 = 1 := by kernel_rfl
theorem cells25 : Ybaz.prog.cellsOf 25 = 14 := by kernel_rfl
theorem cells22 : Ybaz.prog.cellsOf 22 = 1 := by kernel_rfl
theorem cells23 : Ybaz.prog.cellsOf 23 = 1 := by kernel_rfl
theorem cells9 : Ybaz.prog.cellsOf 9 = 1 := by kernel_rfl
theorem cells3 : Ybaz.prog.cellsOf 3 = 1 := by kernel_rfl
theorem row131 (u : TypeId) (h : Ybaz.prog.typeName? 3 u = some starErr) : u = 131 := by
  refine typeName_ptr_named (P := Ybaz.prog) (nm := "errors.errorString") ?_ (by kernel_rfl) (by decide) u ?_
  · simp only [String.reduceAppend]
    kernel_rfl
  · rw [h]
    simp only [String.reduceAppend]
    rfl

/-- What the rows list. -/
def laid5 : List (String × DataW Unit) := Rows.lawS3591ACheckLapseRow.laid

abbrev invS : ByteArray := ⟨#[97, 110, 32, 105, 100, 32, 105, 115, 32, 97, 32, 110, 111, 110, 45, 101, 109, 112, 116, 121, 32, 115, 116, 114, 105, 110, 103, 32, 111, 102, 32, 112, 114, 105, 110, 116, 97, 98, 108, 101, 32, 65, 83, 67, 73, 73, 32, 119, 105, 116, 104, 111, 117, 116, 32, 115, 112, 97, 99, 101, 115]⟩
abbrev notS : ByteArray := ⟨#[110, 111, 116, 32, 97, 32, 98, 108, 111, 99, 107, 101, 100, 32, 112, 114, 111, 99, 101, 115, 115, 32, 111, 102, 32, 116, 104, 105, 115, 32, 115, 105, 116, 101]⟩
def lowOf (P : Program) : Nat := (World.holding P default ⟨#[], #[], []⟩).heap.size
/-- The settled world, the listed variables laid. -/
def laidOf (P : Program) (os : Os) : World :=
  let w0 := World.holding P os ⟨#[.cells #[.string invS] 133, .cells #[.string notS] 133], #[], []⟩
  { w0 with heap := ((((w0.heap.modify 0 fun
      | .cells _ t frozen => .cells #[.iface 131 (.pointer (some ⟨lowOf P, 0, none⟩))] t frozen
      | o => o).modify 1 fun
      | .cells _ t frozen => .cells #[.iface 131 (.pointer (some ⟨lowOf P + 1, 0, none⟩))] t frozen
      | o => o).modify 2 fun
      | .cells _ t frozen => .cells #[.int .u64 1, .int .u64 10, .int .u64 100, .int .u64 1000, .int .u64 10000, .int .u64 100000, .int .u64 1000000, .int .u64 10000000, .int .u64 100000000, .int .u64 1000000000, .int .u64 10000000000, .int .u64 100000000000, .int .u64 1000000000000, .int .u64 10000000000000, .int .u64 100000000000000, .int .u64 1000000000000000, .int .u64 10000000000000000, .int .u64 100000000000000000, .int .u64 1000000000000000000, .int .u64 10000000000000000000] t frozen
      | o => o).modify 4 fun
      | .cells _ t frozen => .cells #[.int .u8 0, .int .u8 1, .int .u8 56, .int .u8 2, .int .u8 57, .int .u8 49, .int .u8 28, .int .u8 3, .int .u8 61, .int .u8 58, .int .u8 42, .int .u8 50, .int .u8 38, .int .u8 29, .int .u8 17, .int .u8 4, .int .u8 62, .int .u8 47, .int .u8 59, .int .u8 36, .int .u8 45, .int .u8 43, .int .u8 51, .int .u8 22, .int .u8 53, .int .u8 39, .int .u8 33, .int .u8 30, .int .u8 24, .int .u8 18, .int .u8 12, .int .u8 5, .int .u8 63, .int .u8 55, .int .u8 48, .int .u8 27, .int .u8 60, .int .u8 41, .int .u8 37, .int .u8 16, .int .u8 46, .int .u8 35, .int .u8 44, .int .u8 21, .int .u8 52, .int .u8 32, .int .u8 23, .int .u8 11, .int .u8 54, .int .u8 26, .int .u8 40, .int .u8 15, .int .u8 34, .int .u8 20, .int .u8 31, .int .u8 10, .int .u8 25, .int .u8 14, .int .u8 19, .int .u8 9, .int .u8 13, .int .u8 8, .int .u8 7, .int .u8 6] t frozen
      | o => o).modify 5 fun
      | .cells _ t frozen => .cells #[.int .u8 0, .int .u8 1, .int .u8 28, .int .u8 2, .int .u8 29, .int .u8 14, .int .u8 24, .int .u8 3, .int .u8 30, .int .u8 22, .int .u8 20, .int .u8 15, .int .u8 25, .int .u8 17, .int .u8 4, .int .u8 8, .int .u8 31, .int .u8 27, .int .u8 13, .int .u8 23, .int .u8 21, .int .u8 19, .int .u8 16, .int .u8 7, .int .u8 26, .int .u8 12, .int .u8 18, .int .u8 6, .int .u8 11, .int .u8 5, .int .u8 10, .int .u8 9] t frozen
      | o => o }
theorem laid_met (os : Os) (args : Array Value) : laidMet Ybaz.prog laid5 ((laidOf Ybaz.prog os).forCall (fun _ _ => 0) ⟨#[], args, []⟩).memory :=
  (LaidIn.of_run [0, 1, 2, 4, 5, lowOf Ybaz.prog, lowOf Ybaz.prog + 1] 8 (by kernel_rfl) (by kernel_rfl) (by kernel_rfl) (by kernel_rfl)).met

set_option maxRecDepth 100000 in
/-- What the two listed errors hold. -/
theorem laid_errs {W : World} (h : laidMet Ybaz.prog laid5 W) : ∃ (a0 a1 : Addr) (s0 s1 : ByteArray),
    W.var? Ybaz.prog nN = some #[.iface 131 (.pointer (some a0))] ∧ W.var? Ybaz.prog nI = some #[.iface 131 (.pointer (some a1))] ∧ W.cell? a1 = some (.string s1) := by
  have h2 : laidMet Ybaz.prog [(nN, Rows.laid_example_com_probewire_probewire_ErrNotBlocked), (nI, Rows.laid_example_com_probewire_probewire_ErrInvalidID)] W :=
    h.filter fun x => x.1 == nN || x.1 == nI
  obtain ⟨a0, a1, s0, s1, c0, c1, t0, t1, hv0, hv1, _, _, _, hc1, _⟩ := laid_sentinels2 h2 gN gNType gI gIType Ybaz.underlying55 row131 Ybaz.underlying131 Ybaz.underlying133 rfl rfl Ybaz.underlying9 cells133 cells9
  exact ⟨a0, a1, s0, s1, hv0, hv1, hc1⟩

theorem gT : Ybaz.prog.globalNamed nT = some 2 := by kernel_rfl
theorem gTType : (Ybaz.prog.globals[2]?).map (·.type) = some 190 := by kernel_rfl
set_option maxRecDepth 100000 in
/-- What the listed table holds. -/
theorem tab_of {W : World} (h : laidMet Ybaz.prog laid5 W) : Lib.TabIs Ybaz.prog W nT .u64 Lib.pow10Tab := by
  have h2 : laidMet Ybaz.prog [(nT, Lib.tabData .u64 Lib.pow10Tab)] W := h.filter fun x => x.1 == nT
  exact Lib.tabIs_of_head gT gTType Ybaz.underlying190 Ybaz.underlying23 (by kernel_rfl) (by kernel_rfl) h2

set_option maxRecDepth 100000 in
/-- A message, opened. -/
theorem open_msg {H : Type} {enc : TypeId × Value → H} {W : World} {r : Reach} {b0 : Nat} {v : Value} {d : DataW H} {p : List MemPlace} (hv : Value.okWide Ybaz.prog W r b0 25 v) (h : DataW.Trod enc Ybaz.prog W 0 (fun _ => true) true 25 v d p) :
    ∃ (kind : Int) (ini : ByteArray) (search : Int) (snd frm rcv site : ByteArray) (hops : Int) (mx mxs : ByteArray) (maxCost walk : Int) (iniSite : ByteArray) (floor : Int), v = .agg (msgV kind ini search snd frm rcv site hops mx mxs maxCost walk iniSite floor) ∧
      ini.size ≤ maxLen ∧ snd.size ≤ maxLen ∧ rcv.size ≤ maxLen ∧ mx.size ≤ maxLen ∧ iniSite.size ≤ maxLen ∧ (Lit.int .u64 maxCost).wf = true := by
  obtain ⟨cs, rfl, hsz⟩ := okWide_struct Ybaz.underlying25 hv
  rw [cells25] at hsz
  obtain ⟨fuel, hf⟩ := h
  obtain ⟨xs, n, _, _, _, hlen, hfl⟩ := DataW.trod_struct Ybaz.underlying25 hf
  match cs, hsz with
  | ⟨[c0, c1, c2, c3, c4, c5, c6, c7, c8, c9, c10, c11, c12, c13]⟩, _ =>
    simp only [Value.cells] at hfl
    have g0 := (hfl 0 _ rfl).trans (List.getElem?_eq_getElem (by simp at hlen; omega))
    have g1 := (hfl 1 _ rfl).trans (List.getElem?_eq_getElem (by simp at hlen; omega))
    have g2 := (hfl 2 _ rfl).trans (List.getElem?_eq_getElem (by simp at hlen; omega))
    have g3 := (hfl 3 _ rfl).trans (List.getElem?_eq_getElem (by simp at hlen; omega))
    have g4 := (hfl 4 _ rfl).trans (List.getElem?_eq_getElem (by simp at hlen; omega))
    have g5 := (hfl 5 _ rfl).trans (List.getElem?_eq_getElem (by simp at hlen; omega))
    have g6 := (hfl 6 _ rfl).trans (List.getElem?_eq_getElem (by simp at hlen; omega))
    have g7 := (hfl 7 _ rfl).trans (List.getElem?_eq_getElem (by simp at hlen; omega))
    have g8 := (hfl 8 _ rfl).trans (List.getElem?_eq_getElem (by simp at hlen; omega))
    have g9 := (hfl 9 _ rfl).trans (List.getElem?_eq_getElem (by simp at hlen; omega))
    have g10 := (hfl 10 _ rfl).trans (List.getElem?_eq_getElem (by simp at hlen; omega))
    have g11 := (hfl 11 _ rfl).trans (List.getElem?_eq_getElem (by simp at hlen; omega))
    have g12 := (hfl 12 _ rfl).trans (List.getElem?_eq_getElem (by simp at hlen; omega))
    have g13 := (hfl 13 _ rfl).trans (List.getElem?_eq_getElem (by simp at hlen; omega))
    obtain ⟨a0, e0, _, l0⟩ := DataW.trod_int Ybaz.underlying22 g0
    obtain ⟨a1, e1, _, l1⟩ := DataW.trod_string Ybaz.underlying9 g1
    obtain ⟨a2, e2, _, l2⟩ := DataW.trod_int Ybaz.underlying23 g2
    obtain ⟨a3, e3, _, l3⟩ := DataW.trod_string Ybaz.underlying9 g3
    obtain ⟨a4, e4, _, l4⟩ := DataW.trod_string Ybaz.underlying9 g4
    obtain ⟨a5, e5, _, l5⟩ := DataW.trod_string Ybaz.underlying9 g5
    obtain ⟨a6, e6, _, l6⟩ := DataW.trod_string Ybaz.underlying9 g6
    obtain ⟨a7, e7, _, l7⟩ := DataW.trod_int Ybaz.underlying3 g7
    obtain ⟨a8, e8, _, l8⟩ := DataW.trod_string Ybaz.underlying9 g8
    obtain ⟨a9, e9, _, l9⟩ := DataW.trod_string Ybaz.underlying9 g9
    obtain ⟨a10, e10, _, l10⟩ := DataW.trod_int Ybaz.underlying23 g10
    obtain ⟨a11, e11, _, l11⟩ := DataW.trod_int Ybaz.underlying23 g11
    obtain ⟨a12, e12, _, l12⟩ := DataW.trod_string Ybaz.underlying9 g12
    obtain ⟨a13, e13, _, l13⟩ := DataW.trod_int Ybaz.underlying23 g13
    simp [cells22, cells23, cells9, cells3] at e0 e1 e2 e3 e4 e5 e6 e7 e8 e9 e10 e11 e12 e13
    subst e0 e1 e2 e3 e4 e5 e6 e7 e8 e9 e10 e11 e12 e13
    exact ⟨a0, a1, a2, a3, a4, a5, a6, a7, a8, a9, a10, a11, a12, a13, rfl, l1, l3, l5, l8, l12, l10⟩

end Go.Proofs.YbulkbviqGreatFmt
