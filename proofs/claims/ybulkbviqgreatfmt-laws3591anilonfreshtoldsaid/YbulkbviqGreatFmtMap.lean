/-
  Plain laws on a map block that is written out: a store under a string key that is not there, a look-up; and how such a store moves through new blocks.
-/
import Derived.WalkKit
import Derived.ProofKit
import Derived.Test.YbulkbviqGreatFmtErr
namespace Go.Proofs.YbulkbviqGreatFmt
open Go.RowKit Go.ChangeMaps Go.MapKept

/-- A store at a string key that the map does not hold. -/
theorem run_upd_new {P : Program} {W : World} {t k e : TypeId} {r : Nat} {es : Array MapEntry} {c : Nat} {s : ByteArray} (v : Value)
    (ht : P.underlying t = some (.map k e)) (hk : P.underlying k = some .string) (hb : W.heap[r]? = some (.map es c))
    (hn : Instr.findNow .string (.string s) es.toList 0 = some Option.none) :
    (Instr.mapUpdate t (.map (some r)) (.string s) v).run P W = .ok () (setBlock W r (.map (es.push ⟨.string s, v, c⟩) (c + 1))) := by
  have hkey : IsKey .string (.string s) := trivial
  simp [Instr.mapUpdate, run_underlying ht, MapKept.run_getObj_map hb, run_checkKey hk hkey, run_findKey hk hn, MapKept.run_setObj_map _ hb, Result.andThen, setBlock]

/-- A look-up with 'ok' of a string key that the map holds. -/
theorem run_look_ok {P : Program} {W : World} {t k e : TypeId} {r : Nat} {es : Array MapEntry} {c i : Nat} {s : ByteArray} {v : Value} (b : Bool)
    (ht : P.underlying t = some (.map k e)) (hk : P.underlying k = some .string) (hb : W.heap[r]? = some (.map es c))
    (hn : Instr.findNow .string (.string s) es.toList 0 = some (some (i, v))) :
    (Instr.lookup t (.map (some r)) (.string s) b).run P W = .ok (if b then .tuple #[v, .bool true] else v) W := by
  have hkey : IsKey .string (.string s) := trivial
  cases b <;> simp [Instr.lookup, run_underlying ht, MapKept.run_getObj_map hb, run_checkKey hk hkey, run_findKey hk hn, Result.andThen]

/-- A look-up of a string key that the map does not hold. -/
theorem run_look_no {P : Program} {W : World} {t k e : TypeId} {r : Nat} {es : Array MapEntry} {c : Nat} {s : ByteArray} {z : Value} (b : Bool)
    (ht : P.underlying t = some (.map k e)) (hk : P.underlying k = some .string) (hb : W.heap[r]? = some (.map es c)) (hz : (zeroValue e).run P W = .ok z W)
    (hn : Instr.findNow .string (.string s) es.toList 0 = some Option.none) :
    (Instr.lookup t (.map (some r)) (.string s) b).run P W = .ok (if b then .tuple #[z, .bool false] else z) W := by
  have hkey : IsKey .string (.string s) := trivial
  cases b <;> simp [Instr.lookup, run_underlying ht, MapKept.run_getObj_map hb, run_checkKey hk hkey, run_findKey hk hn, hz, Result.andThen]

theorem setBlock_alloc_at {w : World} (o o' : Obj) (n : Nat) (hn : n = w.heap.size) : setBlock (w.alloc o) n o' = w.alloc o' := by
  subst hn
  unfold setBlock World.alloc
  congr 1
  apply Array.ext_getElem?
  intro k
  simp only [Array.getElem?_setIfInBounds, Array.getElem?_push, Array.size_push]
  by_cases hk : w.heap.size = k
  · subst hk; simp
  · have h2 : ¬ k = w.heap.size := fun e => hk e.symm
    simp [hk, h2]

theorem setBlock_alloc_past {w : World} (o o' : Obj) (n : Nat) (hn : n < w.heap.size) : setBlock (w.alloc o) n o' = (setBlock w n o').alloc o := by
  unfold setBlock World.alloc
  congr 1
  apply Array.ext_getElem?
  intro k
  simp only [Array.getElem?_setIfInBounds, Array.getElem?_push, Array.size_push, Array.size_setIfInBounds]
  by_cases hk : n = k
  · subst hk
    have h2 : ¬ n = w.heap.size := by omega
    have h3 : n < w.heap.size + 1 := by omega
    simp [hn, h2, h3]
  · by_cases h4 : k = w.heap.size
    · subst h4; simp [hk]
    · simp [hk, h4]

theorem setBlock_drew {w : World} (n : Nat) (o : Obj) : setBlock w.drew n o = (setBlock w n o).drew := rfl

end Go.Proofs.YbulkbviqGreatFmt
