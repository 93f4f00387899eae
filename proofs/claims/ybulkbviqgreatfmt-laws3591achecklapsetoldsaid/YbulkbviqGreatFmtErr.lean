/-
  The closed facts for fmt's stop over this program (after the worked examples' fact files), and fmt.Errorf at each of the formats on the road: there is an error, whatever its text.
-/
import Derived.Test.YbulkbviqGreatFmtMsg
import Derived.Test.YbulkbviqGreatFmtName
import Derived.WalkKit
import Derived.WalkSpells
import Derived.WalkLawsBesides
import Derived.ProofKit
import Derived.Stop.CallBack
import Derived.Stop.IfaceNil
import Derived.Stop.FmtTextLaws
namespace Go.Proofs.YbulkbviqGreatFmt
open Go.RowKit Go.Extern.Stop Go.Stop Go.Extern

theorem call63 (args : Array Value) (w : World) : (callFunc 63 args).run Ybaz.prog w = ((FmtStop.errorf #[9, 129] #[55] args).run Ybaz.prog w).andThen fun v w' => .ok (.value v) w' :=
  run_callFunc_extern Ybaz.func63 (by kernel_rfl) (by kernel_rfl) (by kernel_rfl) (by kernel_rfl) args w
theorem guardF (name : String) (w : World) : (FmtStop.guard name).run Ybaz.prog w = .ok () w := by kernel_rfl
def shape9 : List UInt8 := [12, 6, 0, 0, 0, 0, 0, 0, 0, 115, 116, 114, 105, 110, 103]
def shape3 : List UInt8 := [5, 3, 0, 0, 0, 0, 0, 0, 0, 105, 110, 116]
theorem ptr131 (w : World) : (FmtStop.ptrTo "errors.errorString").run Ybaz.prog w = .ok 131 w := by kernel_rfl
theorem elem131 (w : World) : (elemOf 131).run Ybaz.prog w = .ok 133 w := by kernel_rfl
theorem isError131' (w : World) : (FmtDoors.textMethod 131 "Error").run Ybaz.prog w = .ok true w := by kernel_rfl
theorem ptr130 (w : World) : (FmtStop.ptrTo "fmt.wrapError").run Ybaz.prog w = .ok 130 w := by kernel_rfl
theorem elem130 (w : World) : (elemOf 130).run Ybaz.prog w = .ok 238 w := by kernel_rfl
theorem isError130' (w : World) : (FmtDoors.textMethod 130 "Error").run Ybaz.prog w = .ok true w := by kernel_rfl
def plain131 : List UInt8 := 14 :: FmtStop.pack starErr.toUTF8.data.toList
theorem op9_113 (name : String) (x : ByteArray) (w : World) : (FmtStop.operand name false 113 false (.iface 9 (.string x))).run Ybaz.prog w = .ok (shape9, FmtStop.pack x.data.toList) w := by kernel_rfl
theorem op9_115 (name : String) (x : ByteArray) (w : World) : (FmtStop.operand name false 115 false (.iface 9 (.string x))).run Ybaz.prog w = .ok (shape9, FmtStop.pack x.data.toList) w := by kernel_rfl
theorem op3_100 (name : String) (x : Int) (w : World) : (FmtStop.operand name false 100 false (.iface 3 (.int .i64 x))).run Ybaz.prog w = .ok (shape3, Go.Extern.Stop.digits 8 (x % 2 ^ 64).toNat) w := by kernel_rfl
theorem op9_113w (name : String) (x : ByteArray) (w : World) : (FmtStop.operand name true 113 false (.iface 9 (.string x))).run Ybaz.prog w = .ok (shape9, FmtStop.pack x.data.toList) w := by kernel_rfl
theorem op9_115w (name : String) (x : ByteArray) (w : World) : (FmtStop.operand name true 115 false (.iface 9 (.string x))).run Ybaz.prog w = .ok (shape9, FmtStop.pack x.data.toList) w := by kernel_rfl
theorem op3_100w (name : String) (x : Int) (w : World) : (FmtStop.operand name true 100 false (.iface 3 (.int .i64 x))).run Ybaz.prog w = .ok (shape3, Go.Extern.Stop.digits 8 (x % 2 ^ 64).toNat) w := by kernel_rfl
theorem opPlain131 (name : String) (a : Addr) (s : ByteArray) (w : World) (hc : w.cell? a = some (.string s)) :
    (FmtStop.operand name true 119 false (.iface 131 (.pointer (some a)))).run Ybaz.prog w = .ok (plain131, s.data.toList) w := by
  have h1 : (typeStr 131).run Ybaz.prog w = .ok starErr w := by kernel_rfl
  have d2 : Ybaz.t131.desc = .pointer 133 := rfl
  have d3 : Ybaz.t133.desc = .named "errors.errorString" 132 := rfl
  simp [FmtStop.operand, h1, d2, d3, run_load, hc, plain131]
theorem fmt_addr : FmtStop.printed? ⟨#[97, 100, 100, 114, 101, 115, 115, 101, 100, 32, 116, 111, 32, 115, 105, 116, 101, 32, 37, 113, 44, 32, 110, 111, 116, 32, 37, 115]⟩ 2 = some [(0, 113, false), (1, 115, false)] := by kernel_rfl
theorem fmt_addrr (w : World) : (FmtDoors.printed ⟨#[97, 100, 100, 114, 101, 115, 115, 101, 100, 32, 116, 111, 32, 115, 105, 116, 101, 32, 37, 113, 44, 32, 110, 111, 116, 32, 37, 115]⟩ 2).run Ybaz.prog w = .ok [(0, 113, false), (1, 115, false)] w := by kernel_rfl
theorem fmt_ini : FmtStop.printed? ⟨#[34, 105, 110, 105, 116, 105, 97, 116, 111, 114, 34, 32, 105, 115, 32, 37, 113, 58, 32, 37, 119]⟩ 2 = some [(0, 113, false), (1, 119, false)] := by kernel_rfl
theorem fmt_inir (w : World) : (FmtDoors.printed ⟨#[34, 105, 110, 105, 116, 105, 97, 116, 111, 114, 34, 32, 105, 115, 32, 37, 113, 58, 32, 37, 119]⟩ 2).run Ybaz.prog w = .ok [(0, 113, false), (1, 119, false)] w := by kernel_rfl
theorem fmt_snd : FmtStop.printed? ⟨#[34, 115, 101, 110, 100, 101, 114, 34, 32, 105, 115, 32, 37, 113, 58, 32, 37, 119]⟩ 2 = some [(0, 113, false), (1, 119, false)] := by kernel_rfl
theorem fmt_sndr (w : World) : (FmtDoors.printed ⟨#[34, 115, 101, 110, 100, 101, 114, 34, 32, 105, 115, 32, 37, 113, 58, 32, 37, 119]⟩ 2).run Ybaz.prog w = .ok [(0, 113, false), (1, 119, false)] w := by kernel_rfl
theorem fmt_rcv : FmtStop.printed? ⟨#[34, 114, 101, 99, 101, 105, 118, 101, 114, 34, 32, 105, 115, 32, 37, 113, 58, 32, 37, 119]⟩ 2 = some [(0, 113, false), (1, 119, false)] := by kernel_rfl
theorem fmt_rcvr (w : World) : (FmtDoors.printed ⟨#[34, 114, 101, 99, 101, 105, 118, 101, 114, 34, 32, 105, 115, 32, 37, 113, 58, 32, 37, 119]⟩ 2).run Ybaz.prog w = .ok [(0, 113, false), (1, 119, false)] w := by kernel_rfl
theorem fmt_mx : FmtStop.printed? ⟨#[116, 104, 101, 32, 34, 109, 97, 120, 34, 32, 111, 102, 32, 97, 32, 99, 111, 110, 102, 105, 114, 109, 97, 116, 105, 111, 110, 32, 105, 115, 32, 37, 113, 58, 32, 37, 119]⟩ 2 = some [(0, 113, false), (1, 119, false)] := by kernel_rfl
theorem fmt_mxr (w : World) : (FmtDoors.printed ⟨#[116, 104, 101, 32, 34, 109, 97, 120, 34, 32, 111, 102, 32, 97, 32, 99, 111, 110, 102, 105, 114, 109, 97, 116, 105, 111, 110, 32, 105, 115, 32, 37, 113, 58, 32, 37, 119]⟩ 2).run Ybaz.prog w = .ok [(0, 113, false), (1, 119, false)] w := by kernel_rfl
theorem fmt_cost : FmtStop.printed? ⟨#[116, 104, 101, 32, 34, 109, 97, 120, 95, 99, 111, 115, 116, 34, 32, 111, 102, 32, 97, 32, 99, 111, 110, 102, 105, 114, 109, 97, 116, 105, 111, 110, 58, 32, 37, 119]⟩ 1 = some [(0, 119, false)] := by kernel_rfl
theorem fmt_costr (w : World) : (FmtDoors.printed ⟨#[116, 104, 101, 32, 34, 109, 97, 120, 95, 99, 111, 115, 116, 34, 32, 111, 102, 32, 97, 32, 99, 111, 110, 102, 105, 114, 109, 97, 116, 105, 111, 110, 58, 32, 37, 119]⟩ 1).run Ybaz.prog w = .ok [(0, 119, false)] w := by kernel_rfl
theorem fmt_home : FmtStop.printed? ⟨#[116, 104, 101, 32, 34, 105, 110, 105, 116, 105, 97, 116, 111, 114, 95, 115, 105, 116, 101, 34, 32, 111, 102, 32, 97, 32, 115, 101, 116, 116, 108, 101, 109, 101, 110, 116, 32, 105, 115, 32, 37, 113, 58, 32, 37, 119]⟩ 2 = some [(0, 113, false), (1, 119, false)] := by kernel_rfl
theorem fmt_homer (w : World) : (FmtDoors.printed ⟨#[116, 104, 101, 32, 34, 105, 110, 105, 116, 105, 97, 116, 111, 114, 95, 115, 105, 116, 101, 34, 32, 111, 102, 32, 97, 32, 115, 101, 116, 116, 108, 101, 109, 101, 110, 116, 32, 105, 115, 32, 37, 113, 58, 32, 37, 119]⟩ 2).run Ybaz.prog w = .ok [(0, 113, false), (1, 119, false)] w := by kernel_rfl
theorem fmt_num : FmtStop.printed? ⟨#[37, 115, 32, 105, 115, 32, 110, 111, 116, 32, 97, 110, 32, 105, 110, 116, 101, 103, 101, 114, 32, 102, 114, 111, 109, 32, 48, 32, 116, 111, 32, 37, 100]⟩ 2 = some [(0, 115, false), (1, 100, false)] := by kernel_rfl
theorem fmt_numr (w : World) : (FmtDoors.printed ⟨#[37, 115, 32, 105, 115, 32, 110, 111, 116, 32, 97, 110, 32, 105, 110, 116, 101, 103, 101, 114, 32, 102, 114, 111, 109, 32, 48, 32, 116, 111, 32, 37, 100]⟩ 2).run Ybaz.prog w = .ok [(0, 115, false), (1, 100, false)] w := by kernel_rfl
attribute [local go_sem] call63 guardF ptr131 elem131 isError131' ptr130 elem130 isError130' op9_113 op9_115 op3_100 op9_113w op9_115w op3_100w fmt_addr fmt_addrr fmt_ini fmt_inir fmt_snd fmt_sndr fmt_rcv fmt_rcvr fmt_mx fmt_mxr fmt_cost fmt_costr fmt_home fmt_homer fmt_num fmt_numr

set_option maxRecDepth 100000 in
set_option maxHeartbeats 800000 in
theorem err_addr (F : Interp) (blk : Nat) (w : World) (hF : F.answers w.tape) (s0 : ByteArray) (hc0 : w.cell? ⟨blk, 0, none⟩ = some (.iface 9 (.string s0))) (s1 : ByteArray) (hc1 : w.cell? ⟨blk, 1, none⟩ = some (.iface 9 (.string s1))) :
    Calls Ybaz.prog 27 #[.string ⟨#[97, 100, 100, 114, 101, 115, 115, 101, 100, 32, 116, 111, 32, 115, 105, 116, 101, 32, 37, 113, 44, 32, 110, 111, 116, 32, 37, 115]⟩, .slice (some ⟨blk, 0, none⟩) 2 2] w fun e w' => ∃ b, e = .returned (.iface 131 (.pointer (some ⟨b, 0, none⟩))) ∧ Below w.heap.size w w' := by
  have hF' := answers_open hF
  go_enter Ybaz.func27, Ybaz.ntmps27
  go_wp2
  go_ret
  exact ⟨_, rfl, ((Below.refl _ _).alloc (Nat.le_refl _) _).drew⟩

set_option maxRecDepth 100000 in
set_option maxHeartbeats 800000 in
theorem err_ini (F : Interp) (blk : Nat) (w : World) (hF : F.answers w.tape) (s0 : ByteArray) (hc0 : w.cell? ⟨blk, 0, none⟩ = some (.iface 9 (.string s0))) (a : Addr) (t : ByteArray) (hc1 : w.cell? ⟨blk, 1, none⟩ = some (.iface 131 (.pointer (some a)))) (ht : w.cell? a = some (.string t)) :
    Calls Ybaz.prog 27 #[.string ⟨#[34, 105, 110, 105, 116, 105, 97, 116, 111, 114, 34, 32, 105, 115, 32, 37, 113, 58, 32, 37, 119]⟩, .slice (some ⟨blk, 0, none⟩) 2 2] w fun e w' => ∃ b, e = .returned (.iface 130 (.pointer (some ⟨b, 0, none⟩))) ∧ Below w.heap.size w w' := by
  have hF' := answers_open hF
  have hop := opPlain131 "fmt.errorf" a t w ht
  go_enter Ybaz.func27, Ybaz.ntmps27
  go_wp2
  go_ret
  exact ⟨_, rfl, ((Below.refl _ _).alloc (Nat.le_refl _) _).drew⟩

set_option maxRecDepth 100000 in
set_option maxHeartbeats 800000 in
theorem err_snd (F : Interp) (blk : Nat) (w : World) (hF : F.answers w.tape) (s0 : ByteArray) (hc0 : w.cell? ⟨blk, 0, none⟩ = some (.iface 9 (.string s0))) (a : Addr) (t : ByteArray) (hc1 : w.cell? ⟨blk, 1, none⟩ = some (.iface 131 (.pointer (some a)))) (ht : w.cell? a = some (.string t)) :
    Calls Ybaz.prog 27 #[.string ⟨#[34, 115, 101, 110, 100, 101, 114, 34, 32, 105, 115, 32, 37, 113, 58, 32, 37, 119]⟩, .slice (some ⟨blk, 0, none⟩) 2 2] w fun e w' => ∃ b, e = .returned (.iface 130 (.pointer (some ⟨b, 0, none⟩))) ∧ Below w.heap.size w w' := by
  have hF' := answers_open hF
  have hop := opPlain131 "fmt.errorf" a t w ht
  go_enter Ybaz.func27, Ybaz.ntmps27
  go_wp2
  go_ret
  exact ⟨_, rfl, ((Below.refl _ _).alloc (Nat.le_refl _) _).drew⟩

set_option maxRecDepth 100000 in
set_option maxHeartbeats 800000 in
theorem err_rcv (F : Interp) (blk : Nat) (w : World) (hF : F.answers w.tape) (s0 : ByteArray) (hc0 : w.cell? ⟨blk, 0, none⟩ = some (.iface 9 (.string s0))) (a : Addr) (t : ByteArray) (hc1 : w.cell? ⟨blk, 1, none⟩ = some (.iface 131 (.pointer (some a)))) (ht : w.cell? a = some (.string t)) :
    Calls Ybaz.prog 27 #[.string ⟨#[34, 114, 101, 99, 101, 105, 118, 101, 114, 34, 32, 105, 115, 32, 37, 113, 58, 32, 37, 119]⟩, .slice (some ⟨blk, 0, none⟩) 2 2] w fun e w' => ∃ b, e = .returned (.iface 130 (.pointer (some ⟨b, 0, none⟩))) ∧ Below w.heap.size w w' := by
  have hF' := answers_open hF
  have hop := opPlain131 "fmt.errorf" a t w ht
  go_enter Ybaz.func27, Ybaz.ntmps27
  go_wp2
  go_ret
  exact ⟨_, rfl, ((Below.refl _ _).alloc (Nat.le_refl _) _).drew⟩

set_option maxRecDepth 100000 in
set_option maxHeartbeats 800000 in
theorem err_mx (F : Interp) (blk : Nat) (w : World) (hF : F.answers w.tape) (s0 : ByteArray) (hc0 : w.cell? ⟨blk, 0, none⟩ = some (.iface 9 (.string s0))) (a : Addr) (t : ByteArray) (hc1 : w.cell? ⟨blk, 1, none⟩ = some (.iface 131 (.pointer (some a)))) (ht : w.cell? a = some (.string t)) :
    Calls Ybaz.prog 27 #[.string ⟨#[116, 104, 101, 32, 34, 109, 97, 120, 34, 32, 111, 102, 32, 97, 32, 99, 111, 110, 102, 105, 114, 109, 97, 116, 105, 111, 110, 32, 105, 115, 32, 37, 113, 58, 32, 37, 119]⟩, .slice (some ⟨blk, 0, none⟩) 2 2] w fun e w' => ∃ b, e = .returned (.iface 130 (.pointer (some ⟨b, 0, none⟩))) ∧ Below w.heap.size w w' := by
  have hF' := answers_open hF
  have hop := opPlain131 "fmt.errorf" a t w ht
  go_enter Ybaz.func27, Ybaz.ntmps27
  go_wp2
  go_ret
  exact ⟨_, rfl, ((Below.refl _ _).alloc (Nat.le_refl _) _).drew⟩

set_option maxRecDepth 100000 in
set_option maxHeartbeats 800000 in
theorem err_cost (F : Interp) (blk : Nat) (w : World) (hF : F.answers w.tape) (a : Addr) (t : ByteArray) (hc0 : w.cell? ⟨blk, 0, none⟩ = some (.iface 131 (.pointer (some a)))) (ht : w.cell? a = some (.string t)) :
    Calls Ybaz.prog 27 #[.string ⟨#[116, 104, 101, 32, 34, 109, 97, 120, 95, 99, 111, 115, 116, 34, 32, 111, 102, 32, 97, 32, 99, 111, 110, 102, 105, 114, 109, 97, 116, 105, 111, 110, 58, 32, 37, 119]⟩, .slice (some ⟨blk, 0, none⟩) 1 1] w fun e w' => ∃ b, e = .returned (.iface 130 (.pointer (some ⟨b, 0, none⟩))) ∧ Below w.heap.size w w' := by
  have hF' := answers_open hF
  have hop := opPlain131 "fmt.errorf" a t w ht
  go_enter Ybaz.func27, Ybaz.ntmps27
  go_wp2
  go_ret
  exact ⟨_, rfl, ((Below.refl _ _).alloc (Nat.le_refl _) _).drew⟩

set_option maxRecDepth 100000 in
set_option maxHeartbeats 800000 in
theorem err_home (F : Interp) (blk : Nat) (w : World) (hF : F.answers w.tape) (s0 : ByteArray) (hc0 : w.cell? ⟨blk, 0, none⟩ = some (.iface 9 (.string s0))) (a : Addr) (t : ByteArray) (hc1 : w.cell? ⟨blk, 1, none⟩ = some (.iface 131 (.pointer (some a)))) (ht : w.cell? a = some (.string t)) :
    Calls Ybaz.prog 27 #[.string ⟨#[116, 104, 101, 32, 34, 105, 110, 105, 116, 105, 97, 116, 111, 114, 95, 115, 105, 116, 101, 34, 32, 111, 102, 32, 97, 32, 115, 101, 116, 116, 108, 101, 109, 101, 110, 116, 32, 105, 115, 32, 37, 113, 58, 32, 37, 119]⟩, .slice (some ⟨blk, 0, none⟩) 2 2] w fun e w' => ∃ b, e = .returned (.iface 130 (.pointer (some ⟨b, 0, none⟩))) ∧ Below w.heap.size w w' := by
  have hF' := answers_open hF
  have hop := opPlain131 "fmt.errorf" a t w ht
  go_enter Ybaz.func27, Ybaz.ntmps27
  go_wp2
  go_ret
  exact ⟨_, rfl, ((Below.refl _ _).alloc (Nat.le_refl _) _).drew⟩

set_option maxRecDepth 100000 in
set_option maxHeartbeats 800000 in
theorem err_num (F : Interp) (blk : Nat) (w : World) (hF : F.answers w.tape) (s0 : ByteArray) (hc0 : w.cell? ⟨blk, 0, none⟩ = some (.iface 9 (.string s0))) (s1 : Int) (hc1 : w.cell? ⟨blk, 1, none⟩ = some (.iface 3 (.int .i64 s1))) :
    Calls Ybaz.prog 27 #[.string ⟨#[37, 115, 32, 105, 115, 32, 110, 111, 116, 32, 97, 110, 32, 105, 110, 116, 101, 103, 101, 114, 32, 102, 114, 111, 109, 32, 48, 32, 116, 111, 32, 37, 100]⟩, .slice (some ⟨blk, 0, none⟩) 2 2] w fun e w' => ∃ b, e = .returned (.iface 131 (.pointer (some ⟨b, 0, none⟩))) ∧ Below w.heap.size w w' := by
  have hF' := answers_open hF
  go_enter Ybaz.func27, Ybaz.ntmps27
  go_wp2
  go_ret
  exact ⟨_, rfl, ((Below.refl _ _).alloc (Nat.le_refl _) _).drew⟩

theorem heap_alloc_at {w : World} (o : Obj) (n : Nat) (hn : n = w.heap.size) : (w.alloc o).heap[n]? = some o := by
  subst hn; exact (MapKept.heap_alloc w o).1
theorem heap_alloc_past {w : World} (o : Obj) (n : Nat) (hn : n < w.heap.size) : (w.alloc o).heap[n]? = w.heap[n]? := Below.heap_alloc w o n hn
theorem cell_in {w : World} {b : Nat} {c : Array Value} {t : TypeId} (h : w.heap[b]? = some (.cells c t)) (i : Nat) : w.cell? ⟨b, i, none⟩ = c[i]? := by simp [World.cell?, h]
theorem lt_in {w : World} {b : Nat} {o : Obj} (h : w.heap[b]? = some o) : b < w.heap.size := (Array.getElem?_eq_some_iff.1 h).1
theorem new_cell (W : World) (cs : Array Value) (t : TypeId) (i : Nat) : (W.alloc (.cells cs t)).cell? ⟨W.heap.size, i, none⟩ = cs[i]? := cell_in (heap_alloc_at _ _ rfl) i

theorem errb_addr (F : Interp) (w W : World) (blk : Nat) (hB : Below w.heap.size w W) (hz : W.heap.size = blk) (s s' : ByteArray) (hF : F.answers w.tape) :
    Calls Ybaz.prog 27 #[.string ⟨#[97, 100, 100, 114, 101, 115, 115, 101, 100, 32, 116, 111, 32, 115, 105, 116, 101, 32, 37, 113, 44, 32, 110, 111, 116, 32, 37, 115]⟩, .slice (some ⟨blk, 0, none⟩) 2 2] (W.alloc (.cells #[.iface 9 (.string s), .iface 9 (.string s')] 20)) fun e w' => ∃ b, e = .returned (.iface 131 (.pointer (some ⟨b, 0, none⟩))) ∧ Below w.heap.size w w' := by
  subst hz
  have hA := hB.alloc hB.size (.cells #[.iface 9 (.string s), .iface 9 (.string s')] 20)
  refine (err_addr F _ _ (by rw [hA.tape]; exact hF) s (new_cell W _ 20 0) s' (new_cell W _ 20 1)).mono ?_
  rintro e w' ⟨b, rfl, hB'⟩
  exact ⟨b, rfl, hA.trans (hB'.mono hA.size)⟩

theorem errb_ini (F : Interp) (w W : World) (blk : Nat) (hB : Below w.heap.size w W) (hz : W.heap.size = blk) (s : ByteArray) (a : Addr) (t : ByteArray) (hF : F.answers w.tape) (ht : w.cell? a = some (.string t)) (ha : a.block < w.heap.size) :
    Calls Ybaz.prog 27 #[.string ⟨#[34, 105, 110, 105, 116, 105, 97, 116, 111, 114, 34, 32, 105, 115, 32, 37, 113, 58, 32, 37, 119]⟩, .slice (some ⟨blk, 0, none⟩) 2 2] (W.alloc (.cells #[.iface 9 (.string s), .iface 131 (.pointer (some a))] 20)) fun e w' => ∃ b, e = .returned (.iface 130 (.pointer (some ⟨b, 0, none⟩))) ∧ Below w.heap.size w w' := by
  subst hz
  have hA := hB.alloc hB.size (.cells #[.iface 9 (.string s), .iface 131 (.pointer (some a))] 20)
  refine (err_ini F _ _ (by rw [hA.tape]; exact hF) s (new_cell W _ 20 0) a t (new_cell W _ 20 1) ((hA.cell ha).trans ht)).mono ?_
  rintro e w' ⟨b, rfl, hB'⟩
  exact ⟨b, rfl, hA.trans (hB'.mono hA.size)⟩

theorem errb_snd (F : Interp) (w W : World) (blk : Nat) (hB : Below w.heap.size w W) (hz : W.heap.size = blk) (s : ByteArray) (a : Addr) (t : ByteArray) (hF : F.answers w.tape) (ht : w.cell? a = some (.string t)) (ha : a.block < w.heap.size) :
    Calls Ybaz.prog 27 #[.string ⟨#[34, 115, 101, 110, 100, 101, 114, 34, 32, 105, 115, 32, 37, 113, 58, 32, 37, 119]⟩, .slice (some ⟨blk, 0, none⟩) 2 2] (W.alloc (.cells #[.iface 9 (.string s), .iface 131 (.pointer (some a))] 20)) fun e w' => ∃ b, e = .returned (.iface 130 (.pointer (some ⟨b, 0, none⟩))) ∧ Below w.heap.size w w' := by
  subst hz
  have hA := hB.alloc hB.size (.cells #[.iface 9 (.string s), .iface 131 (.pointer (some a))] 20)
  refine (err_snd F _ _ (by rw [hA.tape]; exact hF) s (new_cell W _ 20 0) a t (new_cell W _ 20 1) ((hA.cell ha).trans ht)).mono ?_
  rintro e w' ⟨b, rfl, hB'⟩
  exact ⟨b, rfl, hA.trans (hB'.mono hA.size)⟩

theorem errb_rcv (F : Interp) (w W : World) (blk : Nat) (hB : Below w.heap.size w W) (hz : W.heap.size = blk) (s : ByteArray) (a : Addr) (t : ByteArray) (hF : F.answers w.tape) (ht : w.cell? a = some (.string t)) (ha : a.block < w.heap.size) :
    Calls Ybaz.prog 27 #[.string ⟨#[34, 114, 101, 99, 101, 105, 118, 101, 114, 34, 32, 105, 115, 32, 37, 113, 58, 32, 37, 119]⟩, .slice (some ⟨blk, 0, none⟩) 2 2] (W.alloc (.cells #[.iface 9 (.string s), .iface 131 (.pointer (some a))] 20)) fun e w' => ∃ b, e = .returned (.iface 130 (.pointer (some ⟨b, 0, none⟩))) ∧ Below w.heap.size w w' := by
  subst hz
  have hA := hB.alloc hB.size (.cells #[.iface 9 (.string s), .iface 131 (.pointer (some a))] 20)
  refine (err_rcv F _ _ (by rw [hA.tape]; exact hF) s (new_cell W _ 20 0) a t (new_cell W _ 20 1) ((hA.cell ha).trans ht)).mono ?_
  rintro e w' ⟨b, rfl, hB'⟩
  exact ⟨b, rfl, hA.trans (hB'.mono hA.size)⟩

theorem errb_mx (F : Interp) (w W : World) (blk : Nat) (hB : Below w.heap.size w W) (hz : W.heap.size = blk) (s : ByteArray) (a : Addr) (t : ByteArray) (hF : F.answers w.tape) (ht : w.cell? a = some (.string t)) (ha : a.block < w.heap.size) :
    Calls Ybaz.prog 27 #[.string ⟨#[116, 104, 101, 32, 34, 109, 97, 120, 34, 32, 111, 102, 32, 97, 32, 99, 111, 110, 102, 105, 114, 109, 97, 116, 105, 111, 110, 32, 105, 115, 32, 37, 113, 58, 32, 37, 119]⟩, .slice (some ⟨blk, 0, none⟩) 2 2] (W.alloc (.cells #[.iface 9 (.string s), .iface 131 (.pointer (some a))] 20)) fun e w' => ∃ b, e = .returned (.iface 130 (.pointer (some ⟨b, 0, none⟩))) ∧ Below w.heap.size w w' := by
  subst hz
  have hA := hB.alloc hB.size (.cells #[.iface 9 (.string s), .iface 131 (.pointer (some a))] 20)
  refine (err_mx F _ _ (by rw [hA.tape]; exact hF) s (new_cell W _ 20 0) a t (new_cell W _ 20 1) ((hA.cell ha).trans ht)).mono ?_
  rintro e w' ⟨b, rfl, hB'⟩
  exact ⟨b, rfl, hA.trans (hB'.mono hA.size)⟩

theorem errb_home (F : Interp) (w W : World) (blk : Nat) (hB : Below w.heap.size w W) (hz : W.heap.size = blk) (s : ByteArray) (a : Addr) (t : ByteArray) (hF : F.answers w.tape) (ht : w.cell? a = some (.string t)) (ha : a.block < w.heap.size) :
    Calls Ybaz.prog 27 #[.string ⟨#[116, 104, 101, 32, 34, 105, 110, 105, 116, 105, 97, 116, 111, 114, 95, 115, 105, 116, 101, 34, 32, 111, 102, 32, 97, 32, 115, 101, 116, 116, 108, 101, 109, 101, 110, 116, 32, 105, 115, 32, 37, 113, 58, 32, 37, 119]⟩, .slice (some ⟨blk, 0, none⟩) 2 2] (W.alloc (.cells #[.iface 9 (.string s), .iface 131 (.pointer (some a))] 20)) fun e w' => ∃ b, e = .returned (.iface 130 (.pointer (some ⟨b, 0, none⟩))) ∧ Below w.heap.size w w' := by
  subst hz
  have hA := hB.alloc hB.size (.cells #[.iface 9 (.string s), .iface 131 (.pointer (some a))] 20)
  refine (err_home F _ _ (by rw [hA.tape]; exact hF) s (new_cell W _ 20 0) a t (new_cell W _ 20 1) ((hA.cell ha).trans ht)).mono ?_
  rintro e w' ⟨b, rfl, hB'⟩
  exact ⟨b, rfl, hA.trans (hB'.mono hA.size)⟩

set_option maxRecDepth 100000 in
theorem new29 (s : ByteArray) (w : World) :
    Calls Ybaz.prog 29 #[.string s] w fun e w' => e = .returned (.iface 131 (.pointer (some ⟨w.heap.size, 0, none⟩))) ∧ w' = w.alloc (.cells #[.string s] 133) := by
  go_enter Ybaz.func29, Ybaz.ntmps29
  go_wp2
  go_ret
  exact ⟨rfl, rfl⟩

end Go.Proofs.YbulkbviqGreatFmt
