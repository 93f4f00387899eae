/-
  checkSize: the closed facts for fmt's stop over this program (after the worked examples' fact files), and the walk. The error's text is whatever fmt answers; the laws only ask that there is an error.
-/
import Derived.Test.YbulkbvkgFmtCards
import Derived.WalkKit
import Derived.WalkSpells
import Derived.WalkLawsBesides
import Derived.Stop.CallBack
import Derived.Stop.IfaceNil
import Derived.Stop.FmtTextLaws
namespace Go.Proofs.YbulkbvkgFmt
open Go.RowKit Go.Extern.Stop Go.Stop Go.Extern

theorem call7 (args : Array Value) (w : World) : (callFunc 7 args).run Ybaf.prog w = ((FmtStop.errorf #[9, 30] #[24] args).run Ybaf.prog w).andThen fun v w' => .ok (.value v) w' :=
  run_callFunc_extern Ybaf.func7 (by kernel_rfl) (by kernel_rfl) (by kernel_rfl) (by kernel_rfl) args w
theorem guardF (name : String) (w : World) : (FmtStop.guard name).run Ybaf.prog w = .ok () w := by kernel_rfl
theorem fmt0 : FmtStop.printed? ⟨#[106, 111, 117, 114, 110, 97, 108, 58, 32, 97, 32, 114, 101, 99, 111, 114, 100, 32, 111, 102, 32, 37, 100, 32, 98, 121, 116, 101, 115, 58, 32, 119, 97, 110, 116, 32, 49, 32, 116, 111, 32, 37, 100]⟩ 2 = some [(0, 100, false), (1, 100, false)] := by kernel_rfl
theorem fmt0r (w : World) : (FmtDoors.printed ⟨#[106, 111, 117, 114, 110, 97, 108, 58, 32, 97, 32, 114, 101, 99, 111, 114, 100, 32, 111, 102, 32, 37, 100, 32, 98, 121, 116, 101, 115, 58, 32, 119, 97, 110, 116, 32, 49, 32, 116, 111, 32, 37, 100]⟩ 2).run Ybaf.prog w = .ok [(0, 100, false), (1, 100, false)] w := by kernel_rfl
def shape3 : List UInt8 := [5, 3, 0, 0, 0, 0, 0, 0, 0, 105, 110, 116]
theorem op3_100 (name : String) (x : Int) (w : World) : (FmtStop.operand name false 100 false (.iface 3 (.int .i64 x))).run Ybaf.prog w = .ok (shape3, Go.Extern.Stop.digits 8 (x % 2 ^ 64).toNat) w := by kernel_rfl
theorem op3_100w (name : String) (x : Int) (w : World) : (FmtStop.operand name true 100 false (.iface 3 (.int .i64 x))).run Ybaf.prog w = .ok (shape3, Go.Extern.Stop.digits 8 (x % 2 ^ 64).toNat) w := by kernel_rfl
theorem ptr33 (w : World) : (FmtStop.ptrTo "errors.errorString").run Ybaf.prog w = .ok 33 w := by kernel_rfl
theorem elem33 (w : World) : (elemOf 33).run Ybaf.prog w = .ok 35 w := by kernel_rfl
theorem isError33' (w : World) : (FmtDoors.textMethod 33 "Error").run Ybaf.prog w = .ok true w := by kernel_rfl
attribute [local go_sem] call7 guardF fmt0 fmt0r op3_100 op3_100w ptr33 elem33 isError33'

set_option maxRecDepth 100000 in
set_option maxHeartbeats 800000 in
theorem size_ok (a : Option Addr) (n cap : Nat) (w : World) (h1 : (1 : Int) ≤ (n : Int)) (h2 : (n : Int) ≤ 1073741824) :
    Calls Ybaf.prog 5 #[.slice a n cap] w fun e w' => e = .returned .nilIface ∧ w' = w := by
  have hz : ((n : Int) == 0) = false := by simp; omega
  have hn : ¬ ((1073741824 : Int) < (n : Int)) := by omega
  go_enter Ybaf.func5, Ybaf.ntmps5
  go_wp2
  go_ret
  exact ⟨rfl, rfl⟩

set_option maxRecDepth 100000 in
set_option maxHeartbeats 1600000 in
theorem size_zero (F : Interp) (a : Option Addr) (cap : Nat) (w : World) (hF : F.answers w.tape) :
    Calls Ybaf.prog 5 #[.slice a 0 cap] w fun e w' => ∃ k, e = .returned (.iface 33 (.pointer (some ⟨k, 0, none⟩))) ∧ Below w.heap.size w w' := by
  have hF' := answers_open hF
  go_enter Ybaf.func5, Ybaf.ntmps5
  go_wp2
  go_ret
  refine ⟨_, rfl, ?_⟩
  exact (((Below.refl _ _).alloc (Nat.le_refl _) _).alloc (by simp) _).drew

set_option maxRecDepth 100000 in
set_option maxHeartbeats 1600000 in
theorem size_big (F : Interp) (a : Option Addr) (n cap : Nat) (w : World) (hF : F.answers w.tape) (h : (1073741824 : Int) < (n : Int)) :
    Calls Ybaf.prog 5 #[.slice a n cap] w fun e w' => ∃ k, e = .returned (.iface 33 (.pointer (some ⟨k, 0, none⟩))) ∧ Below w.heap.size w w' := by
  have hF' := answers_open hF
  have hz : ((n : Int) == 0) = false := by simp; omega

  go_enter Ybaf.func5, Ybaf.ntmps5
  go_wp2
  go_ret
  refine ⟨_, rfl, ?_⟩
  exact (((Below.refl _ _).alloc (Nat.le_refl _) _).alloc (by simp) _).drew

end Go.Proofs.YbulkbvkgFmt
