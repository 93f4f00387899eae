/-
  LawS3591ANilOnFresh: what Receive answers at each kind; the eleven kinds joined.
-/
import Derived.Test.YbulkbviqGreatFmtWalk3
import Derived.Test.YbulkbviqGreatFmtRecv5
import Derived.Test.YbulkbviqGreatFmtChkA
import Derived.Test.YbulkbviqGreatFmtChk7
import Derived.Test.YbulkbviqGreatFmtChk10
import Derived.Test.YbulkbviqGreatFmtChk0
import Derived.Test.YbulkbviqGreatFmtChk9
import Derived.Test.YbulkbviqGreatFmtChk4
import Derived.Test.YbulkbviqGreatFmtRef5
import Derived.Test.YbulkbviqGreatFmtRef6
import Derived.ProofKit
set_option linter.unusedVariables false
namespace Go.Proofs.YbulkbviqGreatFmt
open Go.RowKit Go.ChangeMaps Go.Extern.Stop Go.Stop Go.Extern

variable {F : Interp} {w : World} {a : Addr} {t : ByteArray}

theorem nil0 (search hops maxCost walk floor : Int) (ini snd frm rcv site mx mxs iniSite : ByteArray) (li : ini.size ≤ maxLen) (ls : snd.size ≤ maxLen) (lr : rcv.size ≤ maxLen) (lm : mx.size ≤ maxLen) (lt : iniSite.size ≤ maxLen) :
    ∀ (w1 : World) (sb i q f : Nat), Base F w1 sb i q f ⟨#[115, 49]⟩ a t → Lib.TabIs Ybaz.prog w1 nT .u64 Lib.pow10Tab → Calls Ybaz.prog 7 #[.pointer (some ⟨sb, 0, none⟩), .agg (msgV 0 ini search snd frm rcv site hops mx mxs maxCost walk iniSite floor)] w1 fun e w' => e = .returned (.slice none 0 0) ∧ Below w1.heap.size w1 w' := by
  intro w1 sb i q f B1 T1
  have B2 := B1.alloc (.cells (msgV 0 ini search snd frm rcv site hops mx mxs maxCost walk iniSite floor) 25)
  cases hr : refB 0 ⟨#[115, 49]⟩ site ini snd rcv search hops walk maxCost mx iniSite with
  | true => exact receive_refuse 0 search hops maxCost walk floor ini snd frm rcv site mx mxs iniSite (chk0_refuse F ⟨#[115, 49]⟩ search hops maxCost walk floor ini snd frm rcv site mx mxs iniSite _ li ls lr lm lt _ a t B2.told B2.named (lt_in B2.fresh.site) B2.err B2.zero B2.txt B2.lt hr)
  | false => exact receiveS_take 0 search hops maxCost walk floor ini snd frm rcv site mx mxs iniSite B1.fresh rfl rfl rfl rfl 0 (kind_and 0 (by decide)) (chk0_take F ⟨#[115, 49]⟩ search hops maxCost walk floor ini snd frm rcv site mx mxs iniSite _ li ls lr lm lt _ a t B2.told B2.named (lt_in B2.fresh.site) B2.err B2.zero B2.txt B2.lt hr)

theorem nil1 (search hops maxCost walk floor : Int) (ini snd frm rcv site mx mxs iniSite : ByteArray) (li : ini.size ≤ maxLen) (ls : snd.size ≤ maxLen) (lr : rcv.size ≤ maxLen) (lm : mx.size ≤ maxLen) (lt : iniSite.size ≤ maxLen) :
    ∀ (w1 : World) (sb i q f : Nat), Base F w1 sb i q f ⟨#[115, 49]⟩ a t → Lib.TabIs Ybaz.prog w1 nT .u64 Lib.pow10Tab → Calls Ybaz.prog 7 #[.pointer (some ⟨sb, 0, none⟩), .agg (msgV 1 ini search snd frm rcv site hops mx mxs maxCost walk iniSite floor)] w1 fun e w' => e = .returned (.slice none 0 0) ∧ Below w1.heap.size w1 w' := by
  intro w1 sb i q f B1 T1
  have B2 := B1.alloc (.cells (msgV 1 ini search snd frm rcv site hops mx mxs maxCost walk iniSite floor) 25)
  cases hr : refB 1 ⟨#[115, 49]⟩ site ini snd rcv search hops walk maxCost mx iniSite with
  | true => exact receive_refuse 1 search hops maxCost walk floor ini snd frm rcv site mx mxs iniSite (chkA_refuse F ⟨#[115, 49]⟩ 1 search hops maxCost walk floor ini snd frm rcv site mx mxs iniSite _ li ls lr lm lt _ a t B2.told B2.named (lt_in B2.fresh.site) B2.err B2.zero B2.txt B2.lt rfl rfl rfl rfl rfl hr)
  | false => exact receiveS_take 1 search hops maxCost walk floor ini snd frm rcv site mx mxs iniSite B1.fresh rfl rfl rfl rfl 1 (kind_or 1 (by decide)) (chkA_take F ⟨#[115, 49]⟩ 1 search hops maxCost walk floor ini snd frm rcv site mx mxs iniSite _ li ls lr lm lt _ a t B2.told B2.named (lt_in B2.fresh.site) B2.err B2.zero B2.txt B2.lt rfl rfl rfl rfl rfl hr)

theorem nil2 (search hops maxCost walk floor : Int) (ini snd frm rcv site mx mxs iniSite : ByteArray) (li : ini.size ≤ maxLen) (ls : snd.size ≤ maxLen) (lr : rcv.size ≤ maxLen) (lm : mx.size ≤ maxLen) (lt : iniSite.size ≤ maxLen) :
    ∀ (w1 : World) (sb i q f : Nat), Base F w1 sb i q f ⟨#[115, 49]⟩ a t → Lib.TabIs Ybaz.prog w1 nT .u64 Lib.pow10Tab → Calls Ybaz.prog 7 #[.pointer (some ⟨sb, 0, none⟩), .agg (msgV 2 ini search snd frm rcv site hops mx mxs maxCost walk iniSite floor)] w1 fun e w' => e = .returned (.slice none 0 0) ∧ Below w1.heap.size w1 w' := by
  intro w1 sb i q f B1 T1
  have B2 := B1.alloc (.cells (msgV 2 ini search snd frm rcv site hops mx mxs maxCost walk iniSite floor) 25)
  cases hr : refB 2 ⟨#[115, 49]⟩ site ini snd rcv search hops walk maxCost mx iniSite with
  | true => exact receive_refuse 2 search hops maxCost walk floor ini snd frm rcv site mx mxs iniSite (chkA_refuse F ⟨#[115, 49]⟩ 2 search hops maxCost walk floor ini snd frm rcv site mx mxs iniSite _ li ls lr lm lt _ a t B2.told B2.named (lt_in B2.fresh.site) B2.err B2.zero B2.txt B2.lt rfl rfl rfl rfl rfl hr)
  | false => exact receiveS_take 2 search hops maxCost walk floor ini snd frm rcv site mx mxs iniSite B1.fresh rfl rfl rfl rfl 1 (kind_or 2 (by decide)) (chkA_take F ⟨#[115, 49]⟩ 2 search hops maxCost walk floor ini snd frm rcv site mx mxs iniSite _ li ls lr lm lt _ a t B2.told B2.named (lt_in B2.fresh.site) B2.err B2.zero B2.txt B2.lt rfl rfl rfl rfl rfl hr)

theorem nil3 (search hops maxCost walk floor : Int) (ini snd frm rcv site mx mxs iniSite : ByteArray) (li : ini.size ≤ maxLen) (ls : snd.size ≤ maxLen) (lr : rcv.size ≤ maxLen) (lm : mx.size ≤ maxLen) (lt : iniSite.size ≤ maxLen) :
    ∀ (w1 : World) (sb i q f : Nat), Base F w1 sb i q f ⟨#[115, 49]⟩ a t → Lib.TabIs Ybaz.prog w1 nT .u64 Lib.pow10Tab → Calls Ybaz.prog 7 #[.pointer (some ⟨sb, 0, none⟩), .agg (msgV 3 ini search snd frm rcv site hops mx mxs maxCost walk iniSite floor)] w1 fun e w' => e = .returned (.slice none 0 0) ∧ Below w1.heap.size w1 w' := by
  intro w1 sb i q f B1 T1
  have B2 := B1.alloc (.cells (msgV 3 ini search snd frm rcv site hops mx mxs maxCost walk iniSite floor) 25)
  cases hr : refB 3 ⟨#[115, 49]⟩ site ini snd rcv search hops walk maxCost mx iniSite with
  | true => exact receive_refuse 3 search hops maxCost walk floor ini snd frm rcv site mx mxs iniSite (chkA_refuse F ⟨#[115, 49]⟩ 3 search hops maxCost walk floor ini snd frm rcv site mx mxs iniSite _ li ls lr lm lt _ a t B2.told B2.named (lt_in B2.fresh.site) B2.err B2.zero B2.txt B2.lt rfl rfl rfl rfl rfl hr)
  | false => exact receive3_take search hops maxCost walk floor ini snd frm rcv site mx mxs iniSite B1.fresh (chkA_take F ⟨#[115, 49]⟩ 3 search hops maxCost walk floor ini snd frm rcv site mx mxs iniSite _ li ls lr lm lt _ a t B2.told B2.named (lt_in B2.fresh.site) B2.err B2.zero B2.txt B2.lt rfl rfl rfl rfl rfl hr)

theorem nil4 (search hops maxCost walk floor : Int) (ini snd frm rcv site mx mxs iniSite : ByteArray) (li : ini.size ≤ maxLen) (ls : snd.size ≤ maxLen) (lr : rcv.size ≤ maxLen) (lm : mx.size ≤ maxLen) (lt : iniSite.size ≤ maxLen) (hc : maxCost < 18446744073709551616) :
    ∀ (w1 : World) (sb i q f : Nat), Base F w1 sb i q f ⟨#[115, 49]⟩ a t → Lib.TabIs Ybaz.prog w1 nT .u64 Lib.pow10Tab → Calls Ybaz.prog 7 #[.pointer (some ⟨sb, 0, none⟩), .agg (msgV 4 ini search snd frm rcv site hops mx mxs maxCost walk iniSite floor)] w1 fun e w' => e = .returned (.slice none 0 0) ∧ Below w1.heap.size w1 w' := by
  intro w1 sb i q f B1 T1
  have B2 := B1.alloc (.cells (msgV 4 ini search snd frm rcv site hops mx mxs maxCost walk iniSite floor) 25)
  cases hr : refB 4 ⟨#[115, 49]⟩ site ini snd rcv search hops walk maxCost mx iniSite with
  | true => exact receive_refuse 4 search hops maxCost walk floor ini snd frm rcv site mx mxs iniSite (chk4_refuse F ⟨#[115, 49]⟩ search hops maxCost walk floor ini snd frm rcv site mx mxs iniSite _ li ls lr lm lt _ a t B2.told B2.named (lt_in B2.fresh.site) B2.err B2.zero B2.txt B2.lt hr hc (Lib.tabIs_alloc T1 _))
  | false => exact receiveS_take 4 search hops maxCost walk floor ini snd frm rcv site mx mxs iniSite B1.fresh rfl rfl rfl rfl 0 (kind_and 4 (by decide)) (chk4_take F ⟨#[115, 49]⟩ search hops maxCost walk floor ini snd frm rcv site mx mxs iniSite _ li ls lr lm lt _ a t B2.told B2.named (lt_in B2.fresh.site) B2.err B2.zero B2.txt B2.lt hr)

theorem nil7 (search hops maxCost walk floor : Int) (ini snd frm rcv site mx mxs iniSite : ByteArray) (li : ini.size ≤ maxLen) (ls : snd.size ≤ maxLen) (lr : rcv.size ≤ maxLen) (lm : mx.size ≤ maxLen) (lt : iniSite.size ≤ maxLen) :
    ∀ (w1 : World) (sb i q f : Nat), Base F w1 sb i q f ⟨#[115, 49]⟩ a t → Lib.TabIs Ybaz.prog w1 nT .u64 Lib.pow10Tab → Calls Ybaz.prog 7 #[.pointer (some ⟨sb, 0, none⟩), .agg (msgV 7 ini search snd frm rcv site hops mx mxs maxCost walk iniSite floor)] w1 fun e w' => e = .returned (.slice none 0 0) ∧ Below w1.heap.size w1 w' := by
  intro w1 sb i q f B1 T1
  have B2 := B1.alloc (.cells (msgV 7 ini search snd frm rcv site hops mx mxs maxCost walk iniSite floor) 25)
  cases hr : refB 7 ⟨#[115, 49]⟩ site ini snd rcv search hops walk maxCost mx iniSite with
  | true => exact receive_refuse 7 search hops maxCost walk floor ini snd frm rcv site mx mxs iniSite (chk7_refuse F ⟨#[115, 49]⟩ search hops maxCost walk floor ini snd frm rcv site mx mxs iniSite _ li ls lr lm lt _ a t B2.told B2.named (lt_in B2.fresh.site) B2.err B2.zero B2.txt B2.lt hr)
  | false => exact receiveS_take 7 search hops maxCost walk floor ini snd frm rcv site mx mxs iniSite B1.fresh rfl rfl rfl rfl 1 (kind_or 7 (by decide)) (chk7_take F ⟨#[115, 49]⟩ search hops maxCost walk floor ini snd frm rcv site mx mxs iniSite _ li ls lr lm lt _ a t B2.told B2.named (lt_in B2.fresh.site) B2.err B2.zero B2.txt B2.lt hr)

theorem nil8 (search hops maxCost walk floor : Int) (ini snd frm rcv site mx mxs iniSite : ByteArray) (li : ini.size ≤ maxLen) (ls : snd.size ≤ maxLen) (lr : rcv.size ≤ maxLen) (lm : mx.size ≤ maxLen) (lt : iniSite.size ≤ maxLen) :
    ∀ (w1 : World) (sb i q f : Nat), Base F w1 sb i q f ⟨#[115, 49]⟩ a t → Lib.TabIs Ybaz.prog w1 nT .u64 Lib.pow10Tab → Calls Ybaz.prog 7 #[.pointer (some ⟨sb, 0, none⟩), .agg (msgV 8 ini search snd frm rcv site hops mx mxs maxCost walk iniSite floor)] w1 fun e w' => e = .returned (.slice none 0 0) ∧ Below w1.heap.size w1 w' := by
  intro w1 sb i q f B1 T1
  have B2 := B1.alloc (.cells (msgV 8 ini search snd frm rcv site hops mx mxs maxCost walk iniSite floor) 25)
  cases hr : refB 8 ⟨#[115, 49]⟩ site ini snd rcv search hops walk maxCost mx iniSite with
  | true => exact receive_refuse 8 search hops maxCost walk floor ini snd frm rcv site mx mxs iniSite (chkA_refuse F ⟨#[115, 49]⟩ 8 search hops maxCost walk floor ini snd frm rcv site mx mxs iniSite _ li ls lr lm lt _ a t B2.told B2.named (lt_in B2.fresh.site) B2.err B2.zero B2.txt B2.lt rfl rfl rfl rfl rfl hr)
  | false => exact receiveS_take 8 search hops maxCost walk floor ini snd frm rcv site mx mxs iniSite B1.fresh rfl rfl rfl rfl 1 (kind_or 8 (by decide)) (chkA_take F ⟨#[115, 49]⟩ 8 search hops maxCost walk floor ini snd frm rcv site mx mxs iniSite _ li ls lr lm lt _ a t B2.told B2.named (lt_in B2.fresh.site) B2.err B2.zero B2.txt B2.lt rfl rfl rfl rfl rfl hr)

theorem nil9 (search hops maxCost walk floor : Int) (ini snd frm rcv site mx mxs iniSite : ByteArray) (li : ini.size ≤ maxLen) (ls : snd.size ≤ maxLen) (lr : rcv.size ≤ maxLen) (lm : mx.size ≤ maxLen) (lt : iniSite.size ≤ maxLen) :
    ∀ (w1 : World) (sb i q f : Nat), Base F w1 sb i q f ⟨#[115, 49]⟩ a t → Lib.TabIs Ybaz.prog w1 nT .u64 Lib.pow10Tab → Calls Ybaz.prog 7 #[.pointer (some ⟨sb, 0, none⟩), .agg (msgV 9 ini search snd frm rcv site hops mx mxs maxCost walk iniSite floor)] w1 fun e w' => e = .returned (.slice none 0 0) ∧ Below w1.heap.size w1 w' := by
  intro w1 sb i q f B1 T1
  have B2 := B1.alloc (.cells (msgV 9 ini search snd frm rcv site hops mx mxs maxCost walk iniSite floor) 25)
  cases hr : refB 9 ⟨#[115, 49]⟩ site ini snd rcv search hops walk maxCost mx iniSite with
  | true => exact receive_refuse 9 search hops maxCost walk floor ini snd frm rcv site mx mxs iniSite (chk9_refuse F ⟨#[115, 49]⟩ search hops maxCost walk floor ini snd frm rcv site mx mxs iniSite _ li ls lr lm lt _ a t B2.told B2.named (lt_in B2.fresh.site) B2.err B2.zero B2.txt B2.lt hr)
  | false => exact receive9_take search hops maxCost walk floor ini snd frm rcv site mx mxs iniSite B1.fresh (chk9_take F ⟨#[115, 49]⟩ search hops maxCost walk floor ini snd frm rcv site mx mxs iniSite _ li ls lr lm lt _ a t B2.told B2.named (lt_in B2.fresh.site) B2.err B2.zero B2.txt B2.lt hr)

theorem nil10 (search hops maxCost walk floor : Int) (ini snd frm rcv site mx mxs iniSite : ByteArray) (li : ini.size ≤ maxLen) (ls : snd.size ≤ maxLen) (lr : rcv.size ≤ maxLen) (lm : mx.size ≤ maxLen) (lt : iniSite.size ≤ maxLen) :
    ∀ (w1 : World) (sb i q f : Nat), Base F w1 sb i q f ⟨#[115, 49]⟩ a t → Lib.TabIs Ybaz.prog w1 nT .u64 Lib.pow10Tab → Calls Ybaz.prog 7 #[.pointer (some ⟨sb, 0, none⟩), .agg (msgV 10 ini search snd frm rcv site hops mx mxs maxCost walk iniSite floor)] w1 fun e w' => e = .returned (.slice none 0 0) ∧ Below w1.heap.size w1 w' := by
  intro w1 sb i q f B1 T1
  have B2 := B1.alloc (.cells (msgV 10 ini search snd frm rcv site hops mx mxs maxCost walk iniSite floor) 25)
  cases hr : refB 10 ⟨#[115, 49]⟩ site ini snd rcv search hops walk maxCost mx iniSite with
  | true => exact receive_refuse 10 search hops maxCost walk floor ini snd frm rcv site mx mxs iniSite (chk10_refuse F ⟨#[115, 49]⟩ search hops maxCost walk floor ini snd frm rcv site mx mxs iniSite _ li ls lr lm lt _ a t B2.told B2.named (lt_in B2.fresh.site) B2.err B2.zero B2.txt B2.lt hr)
  | false => exact receiveS_take 10 search hops maxCost walk floor ini snd frm rcv site mx mxs iniSite B1.fresh rfl rfl rfl rfl 1 (kind_or 10 (by decide)) (chk10_take F ⟨#[115, 49]⟩ search hops maxCost walk floor ini snd frm rcv site mx mxs iniSite _ li ls lr lm lt _ a t B2.told B2.named (lt_in B2.fresh.site) B2.err B2.zero B2.txt B2.lt hr)

theorem nil5 (search hops maxCost walk floor : Int) (ini snd frm rcv site mx mxs iniSite : ByteArray) (li : ini.size ≤ maxLen) (ls : snd.size ≤ maxLen) (lr : rcv.size ≤ maxLen) (lm : mx.size ≤ maxLen) (lt : iniSite.size ≤ maxLen) (hr : refB 5 ⟨#[115, 49]⟩ site ini snd rcv search hops walk maxCost mx iniSite = true) :
    ∀ (w1 : World) (sb i q f : Nat), Base F w1 sb i q f ⟨#[115, 49]⟩ a t → Lib.TabIs Ybaz.prog w1 nT .u64 Lib.pow10Tab → Calls Ybaz.prog 7 #[.pointer (some ⟨sb, 0, none⟩), .agg (msgV 5 ini search snd frm rcv site hops mx mxs maxCost walk iniSite floor)] w1 fun e w' => e = .returned (.slice none 0 0) ∧ Below w1.heap.size w1 w' := by
  intro w1 sb i q f B1 T1
  have B2 := B1.alloc (.cells (msgV 5 ini search snd frm rcv site hops mx mxs maxCost walk iniSite floor) 25)
  exact receive_refuse 5 search hops maxCost walk floor ini snd frm rcv site mx mxs iniSite (chk5_refuse F ⟨#[115, 49]⟩ search hops maxCost walk floor ini snd frm rcv site mx mxs iniSite _ li ls lr lm lt _ a t B2.told B2.named (lt_in B2.fresh.site) B2.err B2.zero B2.txt B2.lt hr)

theorem any5 (search hops maxCost walk floor : Int) (ini snd frm rcv site mx mxs iniSite : ByteArray) (li : ini.size ≤ maxLen) (ls : snd.size ≤ maxLen) (lr : rcv.size ≤ maxLen) (lm : mx.size ≤ maxLen) (lt : iniSite.size ≤ maxLen) (hr : refB 5 ⟨#[115, 49]⟩ site ini snd rcv search hops walk maxCost mx iniSite = false) :
    ∀ (w1 : World) (sb i q f : Nat), Base F w1 sb i q f ⟨#[115, 49]⟩ a t → Lib.TabIs Ybaz.prog w1 nT .u64 Lib.pow10Tab → Calls Ybaz.prog 7 #[.pointer (some ⟨sb, 0, none⟩), .agg (msgV 5 ini search snd frm rcv site hops mx mxs maxCost walk iniSite floor)] w1 fun e w' => ∃ v, e = .returned v ∧ Below w1.heap.size w1 w' := by
  intro w1 sb i q f B1 T1
  have B2 := B1.alloc (.cells (msgV 5 ini search snd frm rcv site hops mx mxs maxCost walk iniSite floor) 25)
  refine (receive5_take search hops maxCost walk floor ini snd frm rcv site mx mxs iniSite B1.fresh (chk5_take F ⟨#[115, 49]⟩ search hops maxCost walk floor ini snd frm rcv site mx mxs iniSite _ li ls lr lm lt _ a t B2.told B2.named (lt_in B2.fresh.site) B2.err B2.zero B2.txt B2.lt hr)).mono ?_
  rintro e w' ⟨k, rfl, _, _, hB⟩
  exact ⟨_, rfl, hB⟩

theorem ref5_at (search hops maxCost walk floor : Int) (ini snd frm rcv site mx mxs iniSite : ByteArray) (li : ini.size ≤ maxLen) (ls : snd.size ≤ maxLen) (lr : rcv.size ≤ maxLen) (lm : mx.size ≤ maxLen) (lt : iniSite.size ≤ maxLen) (r : Bool) (hr : refB 5 ⟨#[115, 49]⟩ site ini snd rcv search hops walk maxCost mx iniSite = r) (w1 : World) :
    Calls Ybaz.prog 8 #[.string ⟨#[115, 49]⟩, .agg (msgV 5 ini search snd frm rcv site hops mx mxs maxCost walk iniSite floor)] w1 fun e w' => e = .returned (.bool r) ∧ w' = w1.alloc (.cells (msgV 5 ini search snd frm rcv site hops mx mxs maxCost walk iniSite floor) 25) := by
  subst hr
  exact ref5 ⟨#[115, 49]⟩ search hops maxCost walk floor ini snd frm rcv site mx mxs iniSite w1 li ls lr lm lt

theorem nil6 (search hops maxCost walk floor : Int) (ini snd frm rcv site mx mxs iniSite : ByteArray) (li : ini.size ≤ maxLen) (ls : snd.size ≤ maxLen) (lr : rcv.size ≤ maxLen) (lm : mx.size ≤ maxLen) (lt : iniSite.size ≤ maxLen) (hr : refB 6 ⟨#[115, 49]⟩ site ini snd rcv search hops walk maxCost mx iniSite = true) :
    ∀ (w1 : World) (sb i q f : Nat), Base F w1 sb i q f ⟨#[115, 49]⟩ a t → Lib.TabIs Ybaz.prog w1 nT .u64 Lib.pow10Tab → Calls Ybaz.prog 7 #[.pointer (some ⟨sb, 0, none⟩), .agg (msgV 6 ini search snd frm rcv site hops mx mxs maxCost walk iniSite floor)] w1 fun e w' => e = .returned (.slice none 0 0) ∧ Below w1.heap.size w1 w' := by
  intro w1 sb i q f B1 T1
  have B2 := B1.alloc (.cells (msgV 6 ini search snd frm rcv site hops mx mxs maxCost walk iniSite floor) 25)
  exact receive_refuse 6 search hops maxCost walk floor ini snd frm rcv site mx mxs iniSite (chkA_refuse F ⟨#[115, 49]⟩ 6 search hops maxCost walk floor ini snd frm rcv site mx mxs iniSite _ li ls lr lm lt _ a t B2.told B2.named (lt_in B2.fresh.site) B2.err B2.zero B2.txt B2.lt rfl rfl rfl rfl rfl hr)

theorem any6 (search hops maxCost walk floor : Int) (ini snd frm rcv site mx mxs iniSite : ByteArray) (li : ini.size ≤ maxLen) (ls : snd.size ≤ maxLen) (lr : rcv.size ≤ maxLen) (lm : mx.size ≤ maxLen) (lt : iniSite.size ≤ maxLen) (hr : refB 6 ⟨#[115, 49]⟩ site ini snd rcv search hops walk maxCost mx iniSite = false) :
    ∀ (w1 : World) (sb i q f : Nat), Base F w1 sb i q f ⟨#[115, 49]⟩ a t → Lib.TabIs Ybaz.prog w1 nT .u64 Lib.pow10Tab → Calls Ybaz.prog 7 #[.pointer (some ⟨sb, 0, none⟩), .agg (msgV 6 ini search snd frm rcv site hops mx mxs maxCost walk iniSite floor)] w1 fun e w' => ∃ v, e = .returned v ∧ Below w1.heap.size w1 w' := by
  intro w1 sb i q f B1 T1
  have B2 := B1.alloc (.cells (msgV 6 ini search snd frm rcv site hops mx mxs maxCost walk iniSite floor) 25)
  refine (receive6_take search hops maxCost walk floor ini snd frm rcv site mx mxs iniSite B1.fresh (chkA_take F ⟨#[115, 49]⟩ 6 search hops maxCost walk floor ini snd frm rcv site mx mxs iniSite _ li ls lr lm lt _ a t B2.told B2.named (lt_in B2.fresh.site) B2.err B2.zero B2.txt B2.lt rfl rfl rfl rfl rfl hr)).mono ?_
  rintro e w' ⟨rfl, hB⟩
  exact ⟨_, rfl, hB⟩

theorem ref6_at (search hops maxCost walk floor : Int) (ini snd frm rcv site mx mxs iniSite : ByteArray) (li : ini.size ≤ maxLen) (ls : snd.size ≤ maxLen) (lr : rcv.size ≤ maxLen) (lm : mx.size ≤ maxLen) (lt : iniSite.size ≤ maxLen) (r : Bool) (hr : refB 6 ⟨#[115, 49]⟩ site ini snd rcv search hops walk maxCost mx iniSite = r) (w1 : World) :
    Calls Ybaz.prog 8 #[.string ⟨#[115, 49]⟩, .agg (msgV 6 ini search snd frm rcv site hops mx mxs maxCost walk iniSite floor)] w1 fun e w' => e = .returned (.bool r) ∧ w' = w1.alloc (.cells (msgV 6 ini search snd frm rcv site hops mx mxs maxCost walk iniSite floor) 25) := by
  subst hr
  exact ref6 ⟨#[115, 49]⟩ search hops maxCost walk floor ini snd frm rcv site mx mxs iniSite w1 li ls lr lm lt

theorem idx_at (n0 c kd : Int) (h : (wrap64 n0).tmod 11 = c) (hc : ∀ W, (Instr.index 26 (.agg #[.int .i64 0, .int .i64 1, .int .i64 2, .int .i64 4, .int .i64 7, .int .i64 8, .int .i64 10, .int .i64 3, .int .i64 5, .int .i64 6, .int .i64 9]) (.int .i64 c)).run Ybaz.prog W = .ok (.int .i64 kd) W) (W : World) :
    (Instr.index 26 (.agg #[.int .i64 0, .int .i64 1, .int .i64 2, .int .i64 4, .int .i64 7, .int .i64 8, .int .i64 10, .int .i64 3, .int .i64 5, .int .i64 6, .int .i64 9]) (.int .i64 ((wrap64 n0).tmod 11))).run Ybaz.prog W = .ok (.int .i64 kd) W := by
  rw [h]; exact hc W

theorem eleven (n0 : Int) (h0 : 0 ≤ n0) (h1 : n0 ≤ 255) : (wrap64 n0).tmod 11 = 0 ∨ (wrap64 n0).tmod 11 = 1 ∨ (wrap64 n0).tmod 11 = 2 ∨ (wrap64 n0).tmod 11 = 3 ∨ (wrap64 n0).tmod 11 = 4 ∨ (wrap64 n0).tmod 11 = 5 ∨ (wrap64 n0).tmod 11 = 6 ∨ (wrap64 n0).tmod 11 = 7 ∨ (wrap64 n0).tmod 11 = 8 ∨ (wrap64 n0).tmod 11 = 9 ∨ (wrap64 n0).tmod 11 = 10 := by
  have e : wrap64 n0 = n0 := by unfold wrap64; omega
  rw [e]
  have := Int.tmod_eq_emod_of_nonneg (b := 11) h0
  omega

theorem law3_any (n0 sel kind search hops maxCost walk floor : Int) (ini snd frm rcv site mx mxs iniSite : ByteArray) (w0 : (Lit.int .u8 n0).wf = true) (wc : (Lit.int .u64 maxCost).wf = true) (li : ini.size ≤ maxLen) (ls : snd.size ≤ maxLen) (lr : rcv.size ≤ maxLen) (lm : mx.size ≤ maxLen) (lt : iniSite.size ≤ maxLen) (hF : F.answers w.tape) (he : w.cell? ⟨0, 0, none⟩ = some (.iface 131 (.pointer (some a)))) (h0 : 0 < w.heap.size) (ht : w.cell? a = some (.string t)) (ha : a.block < w.heap.size) (htab : Lib.TabIs Ybaz.prog w nT .u64 Lib.pow10Tab) :
    Calls Ybaz.prog 3 #[.int .u8 n0, .int .u8 sel, .agg (msgV kind ini search snd frm rcv site hops mx mxs maxCost walk iniSite floor)] w fun e w' => e = .returned (.bool true) ∧ Below w.heap.size w w' := by
  have hn : 0 ≤ n0 ∧ n0 ≤ 255 := by
    have := w0
    simp [Lit.wf, IntKind.min, IntKind.max, IntKind.signed, IntKind.bits] at this
    omega
  have hc : maxCost < 18446744073709551616 := by
    have := wc
    simp [Lit.wf, IntKind.min, IntKind.max, IntKind.signed, IntKind.bits] at this
    omega
  rcases eleven n0 hn.1 hn.2 with h | h | h | h | h | h | h | h | h | h | h
  · by_cases hz : Int.tmod sel 4 = 0
    · exact law3_z_o sel kind search hops maxCost walk floor ini snd frm rcv site mx mxs iniSite n0 hF he h0 ht ha htab 0 (idx_at n0 0 0 h (fun W => by kernel_rfl)) hz rfl rfl (nil0 search hops maxCost walk floor ini snd frm rcv site mx mxs iniSite li ls lr lm lt)
    · exact law3_n_o sel kind search hops maxCost walk floor ini snd frm rcv site mx mxs iniSite n0 hF he h0 ht ha htab 0 (idx_at n0 0 0 h (fun W => by kernel_rfl)) hz rfl rfl (nil0 search hops maxCost walk floor ini snd frm rcv ⟨#[115, 49]⟩ mx mxs iniSite li ls lr lm lt)
  · by_cases hz : Int.tmod sel 4 = 0
    · exact law3_z_o sel kind search hops maxCost walk floor ini snd frm rcv site mx mxs iniSite n0 hF he h0 ht ha htab 1 (idx_at n0 1 1 h (fun W => by kernel_rfl)) hz rfl rfl (nil1 search hops maxCost walk floor ini snd frm rcv site mx mxs iniSite li ls lr lm lt)
    · exact law3_n_o sel kind search hops maxCost walk floor ini snd frm rcv site mx mxs iniSite n0 hF he h0 ht ha htab 1 (idx_at n0 1 1 h (fun W => by kernel_rfl)) hz rfl rfl (nil1 search hops maxCost walk floor ini snd frm rcv ⟨#[115, 49]⟩ mx mxs iniSite li ls lr lm lt)
  · by_cases hz : Int.tmod sel 4 = 0
    · exact law3_z_o sel kind search hops maxCost walk floor ini snd frm rcv site mx mxs iniSite n0 hF he h0 ht ha htab 2 (idx_at n0 2 2 h (fun W => by kernel_rfl)) hz rfl rfl (nil2 search hops maxCost walk floor ini snd frm rcv site mx mxs iniSite li ls lr lm lt)
    · exact law3_n_o sel kind search hops maxCost walk floor ini snd frm rcv site mx mxs iniSite n0 hF he h0 ht ha htab 2 (idx_at n0 2 2 h (fun W => by kernel_rfl)) hz rfl rfl (nil2 search hops maxCost walk floor ini snd frm rcv ⟨#[115, 49]⟩ mx mxs iniSite li ls lr lm lt)
  · by_cases hz : Int.tmod sel 4 = 0
    · exact law3_z_o sel kind search hops maxCost walk floor ini snd frm rcv site mx mxs iniSite n0 hF he h0 ht ha htab 4 (idx_at n0 3 4 h (fun W => by kernel_rfl)) hz rfl rfl (nil4 search hops maxCost walk floor ini snd frm rcv site mx mxs iniSite li ls lr lm lt hc)
    · exact law3_n_o sel kind search hops maxCost walk floor ini snd frm rcv site mx mxs iniSite n0 hF he h0 ht ha htab 4 (idx_at n0 3 4 h (fun W => by kernel_rfl)) hz rfl rfl (nil4 search hops maxCost walk floor ini snd frm rcv ⟨#[115, 49]⟩ mx mxs iniSite li ls lr lm lt hc)
  · by_cases hz : Int.tmod sel 4 = 0
    · exact law3_z_o sel kind search hops maxCost walk floor ini snd frm rcv site mx mxs iniSite n0 hF he h0 ht ha htab 7 (idx_at n0 4 7 h (fun W => by kernel_rfl)) hz rfl rfl (nil7 search hops maxCost walk floor ini snd frm rcv site mx mxs iniSite li ls lr lm lt)
    · exact law3_n_o sel kind search hops maxCost walk floor ini snd frm rcv site mx mxs iniSite n0 hF he h0 ht ha htab 7 (idx_at n0 4 7 h (fun W => by kernel_rfl)) hz rfl rfl (nil7 search hops maxCost walk floor ini snd frm rcv ⟨#[115, 49]⟩ mx mxs iniSite li ls lr lm lt)
  · by_cases hz : Int.tmod sel 4 = 0
    · exact law3_z_o sel kind search hops maxCost walk floor ini snd frm rcv site mx mxs iniSite n0 hF he h0 ht ha htab 8 (idx_at n0 5 8 h (fun W => by kernel_rfl)) hz rfl rfl (nil8 search hops maxCost walk floor ini snd frm rcv site mx mxs iniSite li ls lr lm lt)
    · exact law3_n_o sel kind search hops maxCost walk floor ini snd frm rcv site mx mxs iniSite n0 hF he h0 ht ha htab 8 (idx_at n0 5 8 h (fun W => by kernel_rfl)) hz rfl rfl (nil8 search hops maxCost walk floor ini snd frm rcv ⟨#[115, 49]⟩ mx mxs iniSite li ls lr lm lt)
  · by_cases hz : Int.tmod sel 4 = 0
    · exact law3_z_o sel kind search hops maxCost walk floor ini snd frm rcv site mx mxs iniSite n0 hF he h0 ht ha htab 10 (idx_at n0 6 10 h (fun W => by kernel_rfl)) hz rfl rfl (nil10 search hops maxCost walk floor ini snd frm rcv site mx mxs iniSite li ls lr lm lt)
    · exact law3_n_o sel kind search hops maxCost walk floor ini snd frm rcv site mx mxs iniSite n0 hF he h0 ht ha htab 10 (idx_at n0 6 10 h (fun W => by kernel_rfl)) hz rfl rfl (nil10 search hops maxCost walk floor ini snd frm rcv ⟨#[115, 49]⟩ mx mxs iniSite li ls lr lm lt)
  · by_cases hz : Int.tmod sel 4 = 0
    · exact law3_z_o sel kind search hops maxCost walk floor ini snd frm rcv site mx mxs iniSite n0 hF he h0 ht ha htab 3 (idx_at n0 7 3 h (fun W => by kernel_rfl)) hz rfl rfl (nil3 search hops maxCost walk floor ini snd frm rcv site mx mxs iniSite li ls lr lm lt)
    · exact law3_n_o sel kind search hops maxCost walk floor ini snd frm rcv site mx mxs iniSite n0 hF he h0 ht ha htab 3 (idx_at n0 7 3 h (fun W => by kernel_rfl)) hz rfl rfl (nil3 search hops maxCost walk floor ini snd frm rcv ⟨#[115, 49]⟩ mx mxs iniSite li ls lr lm lt)
  · by_cases hz : Int.tmod sel 4 = 0
    · cases hr : refB 5 ⟨#[115, 49]⟩ site ini snd rcv search hops walk maxCost mx iniSite with
      | true => exact law3_z_5r sel kind search hops maxCost walk floor ini snd frm rcv site mx mxs iniSite n0 hF he h0 ht ha htab (idx_at n0 8 5 h (fun W => by kernel_rfl)) hz (nil5 search hops maxCost walk floor ini snd frm rcv site mx mxs iniSite li ls lr lm lt hr) (ref5_at search hops maxCost walk floor ini snd frm rcv site mx mxs iniSite li ls lr lm lt true hr)
      | false => exact law3_z_5t sel kind search hops maxCost walk floor ini snd frm rcv site mx mxs iniSite n0 hF he h0 ht ha htab (idx_at n0 8 5 h (fun W => by kernel_rfl)) hz (any5 search hops maxCost walk floor ini snd frm rcv site mx mxs iniSite li ls lr lm lt hr) (ref5_at search hops maxCost walk floor ini snd frm rcv site mx mxs iniSite li ls lr lm lt false hr)
    · cases hr : refB 5 ⟨#[115, 49]⟩ ⟨#[115, 49]⟩ ini snd rcv search hops walk maxCost mx iniSite with
      | true => exact law3_n_5r sel kind search hops maxCost walk floor ini snd frm rcv site mx mxs iniSite n0 hF he h0 ht ha htab (idx_at n0 8 5 h (fun W => by kernel_rfl)) hz (nil5 search hops maxCost walk floor ini snd frm rcv ⟨#[115, 49]⟩ mx mxs iniSite li ls lr lm lt hr) (ref5_at search hops maxCost walk floor ini snd frm rcv ⟨#[115, 49]⟩ mx mxs iniSite li ls lr lm lt true hr)
      | false => exact law3_n_5t sel kind search hops maxCost walk floor ini snd frm rcv site mx mxs iniSite n0 hF he h0 ht ha htab (idx_at n0 8 5 h (fun W => by kernel_rfl)) hz (any5 search hops maxCost walk floor ini snd frm rcv ⟨#[115, 49]⟩ mx mxs iniSite li ls lr lm lt hr) (ref5_at search hops maxCost walk floor ini snd frm rcv ⟨#[115, 49]⟩ mx mxs iniSite li ls lr lm lt false hr)
  · by_cases hz : Int.tmod sel 4 = 0
    · cases hr : refB 6 ⟨#[115, 49]⟩ site ini snd rcv search hops walk maxCost mx iniSite with
      | true => exact law3_z_6r sel kind search hops maxCost walk floor ini snd frm rcv site mx mxs iniSite n0 hF he h0 ht ha htab (idx_at n0 9 6 h (fun W => by kernel_rfl)) hz (nil6 search hops maxCost walk floor ini snd frm rcv site mx mxs iniSite li ls lr lm lt hr) (ref6_at search hops maxCost walk floor ini snd frm rcv site mx mxs iniSite li ls lr lm lt true hr)
      | false => exact law3_z_6t sel kind search hops maxCost walk floor ini snd frm rcv site mx mxs iniSite n0 hF he h0 ht ha htab (idx_at n0 9 6 h (fun W => by kernel_rfl)) hz (any6 search hops maxCost walk floor ini snd frm rcv site mx mxs iniSite li ls lr lm lt hr) (ref6_at search hops maxCost walk floor ini snd frm rcv site mx mxs iniSite li ls lr lm lt false hr)
    · cases hr : refB 6 ⟨#[115, 49]⟩ ⟨#[115, 49]⟩ ini snd rcv search hops walk maxCost mx iniSite with
      | true => exact law3_n_6r sel kind search hops maxCost walk floor ini snd frm rcv site mx mxs iniSite n0 hF he h0 ht ha htab (idx_at n0 9 6 h (fun W => by kernel_rfl)) hz (nil6 search hops maxCost walk floor ini snd frm rcv ⟨#[115, 49]⟩ mx mxs iniSite li ls lr lm lt hr) (ref6_at search hops maxCost walk floor ini snd frm rcv ⟨#[115, 49]⟩ mx mxs iniSite li ls lr lm lt true hr)
      | false => exact law3_n_6t sel kind search hops maxCost walk floor ini snd frm rcv site mx mxs iniSite n0 hF he h0 ht ha htab (idx_at n0 9 6 h (fun W => by kernel_rfl)) hz (any6 search hops maxCost walk floor ini snd frm rcv ⟨#[115, 49]⟩ mx mxs iniSite li ls lr lm lt hr) (ref6_at search hops maxCost walk floor ini snd frm rcv ⟨#[115, 49]⟩ mx mxs iniSite li ls lr lm lt false hr)
  · by_cases hz : Int.tmod sel 4 = 0
    · exact law3_z_o sel kind search hops maxCost walk floor ini snd frm rcv site mx mxs iniSite n0 hF he h0 ht ha htab 9 (idx_at n0 10 9 h (fun W => by kernel_rfl)) hz rfl rfl (nil9 search hops maxCost walk floor ini snd frm rcv site mx mxs iniSite li ls lr lm lt)
    · exact law3_n_o sel kind search hops maxCost walk floor ini snd frm rcv site mx mxs iniSite n0 hF he h0 ht ha htab 9 (idx_at n0 10 9 h (fun W => by kernel_rfl)) hz rfl rfl (nil9 search hops maxCost walk floor ini snd frm rcv ⟨#[115, 49]⟩ mx mxs iniSite li ls lr lm lt)

end Go.Proofs.YbulkbviqGreatFmt
