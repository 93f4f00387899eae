/-
  NewSite, victimMessage: the contracts.
-/
import Derived.Test.YbulkbviqGreatFmtMap
import Derived.WalkKit
import Derived.WalkSpells
import Derived.RegionTactic
import Derived.BigRegion
import Derived.ChangeAlike
import Derived.ProofKit
namespace Go.Proofs.YbulkbviqGreatFmt
open Go.RowKit Go.ChangeMaps

/-- The cells of a new site named s; i, q, f: the blocks of its three maps. -/
def siteCells (s : ByteArray) (i q f : Nat) : Array Value :=
  #[.string s, .map (some i), .slice none 0 0, .slice none 0 0, .slice none 0 0, .map (some q), .map (some f), .bool false, .int .u64 0, .int .u64 0, .nilFunc, .slice none 0 0,
    .slice none 0 0, .slice none 0 0, .bool false, .int .i32 0, .int .i64 0, .int .i32 0, .bool false, .int .i64 0, .int .i64 0, .slice none 0 0, .int .i64 0, .int .u64 0,
    .int .i64 10000, .slice none 0 0, .map none, .int .i64 0, .int .i64 0]

/-- What NewSite leaves: five new blocks. -/
structure SiteMade (w w' : World) (s : ByteArray) : Prop where
  below : Below w.heap.size w w'
  size : w'.heap.size = w.heap.size + 5
  drawn : w'.drawn = w.drawn
  index : w'.heap[w.heap.size]? = some (.map #[] 0)
  searches : w'.heap[w.heap.size + 1]? = some (.map #[] 0)
  floors : w'.heap[w.heap.size + 2]? = some (.map #[⟨.string s, .pointer (some ⟨w.heap.size + 3, 0, none⟩), 0⟩] 1)
  floor : w'.heap[w.heap.size + 3]? = some (.cells #[.int .u64 0] 23)
  site : w'.heap[w.heap.size + 4]? = some (.cells (siteCells s w.heap.size (w.heap.size + 1) (w.heap.size + 2)) 53)

theorem siteMade_mk (w : World) (o0 o1 o2 o3 o4 : Obj) : Below w.heap.size w (((((w.alloc o0).alloc o1).alloc o2).alloc o3).alloc o4) ∧ (((((w.alloc o0).alloc o1).alloc o2).alloc o3).alloc o4).heap.size = w.heap.size + 5 ∧
    (((((w.alloc o0).alloc o1).alloc o2).alloc o3).alloc o4).heap[w.heap.size]? = some o0 ∧ (((((w.alloc o0).alloc o1).alloc o2).alloc o3).alloc o4).heap[w.heap.size + 1]? = some o1 ∧
    (((((w.alloc o0).alloc o1).alloc o2).alloc o3).alloc o4).heap[w.heap.size + 2]? = some o2 ∧ (((((w.alloc o0).alloc o1).alloc o2).alloc o3).alloc o4).heap[w.heap.size + 3]? = some o3 ∧
    (((((w.alloc o0).alloc o1).alloc o2).alloc o3).alloc o4).heap[w.heap.size + 4]? = some o4 := by
  refine ⟨?_, by simp, ?_, ?_, ?_, ?_, ?_⟩
  · exact ((((((Below.refl _ _).alloc (Nat.le_refl _) _).alloc (by simp) _).alloc (by simp; omega) _).alloc (by simp; omega) _).alloc (by simp; omega) _)
  · rw [heap_alloc_past _ _ (by simp; omega), heap_alloc_past _ _ (by simp; omega), heap_alloc_past _ _ (by simp; omega), heap_alloc_past _ _ (by simp), heap_alloc_at _ _ rfl]
  · rw [heap_alloc_past _ _ (by simp), heap_alloc_past _ _ (by simp), heap_alloc_past _ _ (by simp), heap_alloc_at _ _ (by simp)]
  · rw [heap_alloc_past _ _ (by simp), heap_alloc_past _ _ (by simp), heap_alloc_at _ _ (by simp)]
  · rw [heap_alloc_past _ _ (by simp), heap_alloc_at _ _ (by simp)]
  · rw [heap_alloc_at _ _ (by simp)]

set_option maxRecDepth 100000 in
set_option maxHeartbeats 400000 in
theorem newSite_any (s : ByteArray) (w : World) :
    Calls Ybaz.prog 6 #[.string s] w fun e w' => e = .returned (.pointer (some ⟨w.heap.size + 4, 0, none⟩)) ∧ SiteMade w w' s := by
  have hmm := @run_makeMap Ybaz.prog
  have hup : ∀ (w : World) (v : Value) (o : Obj), (Instr.mapUpdate 38 (.map (some w.heap.size)) (.string s) v).run Ybaz.prog ((w.alloc (.map #[] 0)).alloc o) = .ok () ((w.alloc (.map #[⟨.string s, v, 0⟩] 1)).alloc o) := by
    intro w v o
    rw [run_upd_new (es := #[]) (c := 0) v Ybaz.underlying38 Ybaz.underlying9 (by rw [heap_alloc_past _ _ (by simp), heap_alloc_at _ _ rfl]) rfl]
    rw [setBlock_alloc_past _ _ _ (by simp), setBlock_alloc_at _ _ _ rfl]
    rfl
  have hu := hup ((w.alloc (.map #[] 0)).alloc (.map #[] 0))
  simp only [World.size_alloc] at hu
  go_enter Ybaz.func6, Ybaz.ntmps6
  go_wp2
  go_ret
  obtain ⟨h1, h2, h3, h4, h5, h6, h7⟩ := siteMade_mk w _ _ _ _ _
  exact ⟨rfl, ⟨h1, h2, rfl, h3, h4, h5, h6, h7⟩⟩

/-- The message that victimMessage makes. -/
def vMsg (k : Int) (ini : ByteArray) (n : Int) (snd site tp ts : ByteArray) : Value :=
  .agg #[.int .i64 k, .string ini, .int .u64 n, .string snd, .string site, .string tp, .string ts, .int .i64 0, .string ⟨#[]⟩, .string ⟨#[]⟩, .int .u64 0, .int .u64 0, .string ⟨#[]⟩, .int .u64 0]

set_option maxRecDepth 100000 in
set_option maxHeartbeats 1000000 in
theorem victimMessage_at (b o : Nat) (k : Int) (ini : ByteArray) (n : Int) (snd site tp ts : ByteArray) (w : World) (hb : b < w.heap.size) (hc : w.cell? ⟨b, o, none⟩ = some (.string site)) :
    Calls Ybaz.prog 36 #[.pointer (some ⟨b, o, none⟩), .int .i64 k, .string ini, .int .u64 n, .string snd, .agg #[.string tp, .string ts]] w fun e w' => e = .returned (vMsg k ini n snd site tp ts) ∧
      w' = ((w.alloc (.cells #[.string tp, .string ts] 90)).alloc (.cells #[.int .i64 k, .string ini, .int .u64 n, .string snd, .string site, .string tp, .string ts, .int .i64 0, .string ⟨#[]⟩, .string ⟨#[]⟩, .int .u64 0, .int .u64 0, .string ⟨#[]⟩, .int .u64 0] 25)).drew := by
  go_enter Ybaz.func36, Ybaz.ntmps36
  go_wp2
  go_region
  go_wp2
  exact bodyPost_ret (v := vMsg k ini n snd site tp ts) (by simp [results, Ybaz.results36, go_sem, vMsg]) rfl ⟨rfl, rfl⟩

end Go.Proofs.YbulkbviqGreatFmt
