/-
  The state that the main road goes through: the site, its arrays, the search, its walk, block by block. Plain: no walk here.
-/
import Derived.Test.YbulkbviqSite
import Derived.WalkKit
import Derived.WalkSpells
namespace Go.Proofs.Ybulkbviq
open Go.RowKit Go.ChangeMaps

/-- New blocks, one behind the other. -/
def allocs (w : World) : List Obj → World
  | [] => w
  | o :: l => allocs (w.alloc o) l

theorem allocs_heap : ∀ (l : List Obj) (w : World) (k : Nat), k < w.heap.size → (allocs w l).heap[k]? = w.heap[k]?
  | [], _, _, _ => rfl
  | o :: l, w, k, h => by
    rw [allocs, allocs_heap l _ k (by simp; omega), heap_alloc_past _ _ h]

theorem allocs_get : ∀ (l : List Obj) (w : World) (i : Nat), i < l.length → (allocs w l).heap[w.heap.size + i]? = l[i]?
  | [], _, _, h => by simp at h
  | o :: l, w, 0, _ => by rw [allocs, allocs_heap l _ _ (by simp), heap_alloc_at _ _ (by simp)]; rfl
  | o :: l, w, i + 1, h => by
    have := allocs_get l (w.alloc o) i (by simpa using h)
    rw [World.size_alloc, Nat.add_assoc, Nat.add_comm 1 i] at this
    rw [allocs, this]
    simp

theorem allocs_size : ∀ (l : List Obj) (w : World), (allocs w l).heap.size = w.heap.size + l.length
  | [], _ => rfl
  | o :: l, w => by rw [allocs, allocs_size l, World.size_alloc, List.length_cons]; omega

theorem allocs_below : ∀ (l : List Obj) (w : World), Below w.heap.size w (allocs w l)
  | [], w => Below.refl _ _
  | o :: l, w => ((Below.refl w.heap.size w).alloc (Nat.le_refl _) o).trans ((allocs_below l (w.alloc o)).mono (by simp))

theorem allocs_setBlock : ∀ (l : List Obj) (w : World) (k : Nat) (o : Obj), k < w.heap.size → setBlock (allocs w l) k o = allocs (setBlock w k o) l
  | [], _, _, _, _ => rfl
  | x :: l, w, k, o, h => by
    rw [allocs, allocs, allocs_setBlock l _ k o (by simp; omega), setBlock_alloc_past _ _ _ h]

/-- A store under a new string key into a map block, behind whatever new blocks. -/
theorem run_upd_allocs {t e : TypeId} (W : World) (es : Array MapEntry) (c : Nat) (s : ByteArray) (v : Value) (l : List Obj) (ht : Yba.prog.underlying t = some (.map 9 e))
    (hn : Instr.findNow .string (.string s) es.toList 0 = some Option.none) :
    (Instr.mapUpdate t (.map (some W.heap.size)) (.string s) v).run Yba.prog (allocs (W.alloc (.map es c)) l) = .ok () (allocs (W.alloc (.map (es.push ⟨.string s, v, c⟩) (c + 1))) l) := by
  rw [run_upd_new v ht Yba.underlying9 (by rw [allocs_heap l _ _ (by simp), heap_alloc_at _ _ rfl]) hn]
  rw [allocs_setBlock l _ _ _ (by simp), setBlock_alloc_at _ _ _ rfl]

def ea : MapEntry := ⟨.string ⟨#[97]⟩, .int .i64 0, 0⟩
def eb : MapEntry := ⟨.string ⟨#[98]⟩, .int .i64 1, 1⟩
def ec : MapEntry := ⟨.string ⟨#[99]⟩, .int .i64 2, 2⟩

/-- The site's cells: pend, prev: the walk's two scratch slices; unr: how many comparisons; ring, made: the declarations. -/
def siteA (n : Nat) (pend prev : Value) (unr : Int) (ring : Value) (made : Int) : Array Value :=
  #[.string ⟨#[83, 49]⟩, .map (some (n + 1)), .slice (some ⟨n + 8, 0, none⟩) 3 3, .slice (some ⟨n + 9, 0, none⟩) 3 3, .slice (some ⟨n + 10, 0, none⟩) 3 3, .map (some (n + 2)), .map (some (n + 3)), .bool false, .int .u64 0, .int .u64 0, .nilFunc,
    pend, .slice none 0 0, prev, .bool false, .int .i32 0, .int .i64 0, .int .i32 0, .bool false, .int .i64 0, .int .i64 unr, ring, .int .i64 0, .int .u64 made, .int .i64 10000, .slice none 0 0, .map none, .int .i64 0, .int .i64 0]
def procsA (n : Nat) (cost : Int) (settled : Value) : Array Value :=
  #[.bool true, .int .i64 0, .int .u64 cost, .slice (some ⟨n + 6, 0, none⟩) 1 1, .slice (some ⟨n + 7, 0, none⟩) 1 1, .int .u64 0, settled,
    .bool false, .int .i64 0, .int .u64 0, .slice none 0 0, .slice none 0 0, .int .u64 0, .pointer none, .bool false, .int .i64 0, .int .u64 0, .slice none 0 0, .slice none 0 0, .int .u64 0, .pointer none]
def namesA : Array Value := #[.string ⟨#[97]⟩, .string ⟨#[83, 49]⟩, .string ⟨#[98]⟩, .string ⟨#[83, 50]⟩, .string ⟨#[99]⟩, .string ⟨#[83, 51]⟩]
def linksA (dcl dead : Bool) : Array Value :=
  #[.int .i32 (-1), .int .i32 0, .bool false, .bool dcl, .bool dead, .int .i32 (-1), .int .i32 0, .bool false, .bool false, .bool false, .int .i32 (-1), .int .i32 0, .bool false, .bool false, .bool false]
def srchA (n : Nat) (ini home : ByteArray) (num back : Int) (rw : Value) (dcl : Bool) : Array Value :=
  #[.string ini, .string home, .pointer (some ⟨n + 11, 0, none⟩), .int .u64 num, .int .i64 0, .int .u64 0, .slice none 0 0, .slice (some ⟨n + 14, 0, none⟩) 1 1, .int .i64 back, .int .u64 0, .bool false, rw, .map none, .bool dcl]
def walkA (num sender sent : Int) : Array Value := #[.int .u64 num, .int .i64 0, .int .i64 sender, .int .u64 sent]

/-- The state, block by block; n: the block ahead of the site's own. -/
structure Road (w : World) (n : Nat) (site procs links srch walk : Array Value) (waitedAt floor : Int) : Prop where
  index : w.heap[n + 1]? = some (.map #[ea, eb, ec] 3)
  site : w.heap[n + 5]? = some (.cells site 63)
  waits : w.heap[n + 6]? = some (.cells #[.int .i64 1] 3)
  waited : w.heap[n + 7]? = some (.cells #[.int .u64 waitedAt] 22)
  procs : w.heap[n + 8]? = some (.cells procs 46)
  names : w.heap[n + 9]? = some (.cells namesA 65)
  links : w.heap[n + 10]? = some (.cells links 69)
  floor : w.heap[n + 11]? = some (.cells #[.int .u64 floor] 22)
  srch : w.heap[n + 12]? = some (.cells srch 42)
  walk : w.heap[n + 14]? = some (.cells walk 84)
  size : n + 15 ≤ w.heap.size

/-- Nothing but the road's own blocks, and new ones, has turned. -/
structure Keep (n : Nat) (w w' : World) : Prop where
  os : w'.os = w.os
  tape : w'.tape = w.tape
  output : w'.output = w.output
  size : w.heap.size ≤ w'.heap.size
  block : ∀ k, k < w.heap.size → (k ≤ n ∨ n + 15 ≤ k) → w'.heap[k]? = w.heap[k]?

theorem Keep.refl (n : Nat) (w : World) : Keep n w w := ⟨rfl, rfl, rfl, Nat.le_refl _, fun _ _ _ => rfl⟩
theorem Keep.trans {n : Nat} {a b c : World} (h : Keep n a b) (k : Keep n b c) : Keep n a c :=
  ⟨k.os.trans h.os, k.tape.trans h.tape, k.output.trans h.output, Nat.le_trans h.size k.size, fun i hi hn => (k.block i (Nat.lt_of_lt_of_le hi h.size) hn).trans (h.block i hi hn)⟩
theorem Keep.alloc {n : Nat} {a w : World} (h : Keep n a w) (o : Obj) : Keep n a (w.alloc o) :=
  h.trans ⟨rfl, rfl, rfl, by simp, fun k hk _ => heap_alloc_past o k hk⟩
theorem Keep.drew {n : Nat} {a w : World} (h : Keep n a w) : Keep n a w.drew := ⟨h.os, h.tape, h.output, h.size, h.block⟩
theorem Keep.setCell {n : Nat} {a w : World} (h : Keep n a w) {p : Addr} (h1 : n < p.block) (h2 : p.block < n + 15) (v : Value) : Keep n a (w.setCell p v) :=
  h.trans ⟨rfl, rfl, rfl, by simp [World.setCell], fun k _ hn => Below.heap_setCell _ _ _ _ (by omega)⟩
theorem Keep.below {n : Nat} {a w w' : World} (h : Keep n a w) (hb : Below w.heap.size w w') : Keep n a w' :=
  h.trans ⟨hb.os, hb.tape, hb.output, hb.size, fun k hk _ => hb.block k hk⟩
theorem Keep.toBelow {n : Nat} {w w' : World} (h : Keep n w w') (hn : n < w.heap.size) : Below (n + 1) w w' :=
  ⟨h.os, h.tape, h.output, h.size, fun k hk => h.block k (by omega) (Or.inl (by omega))⟩

section
variable {w : World} {n : Nat} {site procs links srch walk : Array Value} {waitedAt floor : Int}

theorem Road.alloc (h : Road w n site procs links srch walk waitedAt floor) (o : Obj) : Road (w.alloc o) n site procs links srch walk waitedAt floor := by
  have hs := h.size
  exact ⟨by rw [heap_alloc_past _ _ (by omega)]; exact h.index, by rw [heap_alloc_past _ _ (by omega)]; exact h.site, by rw [heap_alloc_past _ _ (by omega)]; exact h.waits, by rw [heap_alloc_past _ _ (by omega)]; exact h.waited,
    by rw [heap_alloc_past _ _ (by omega)]; exact h.procs, by rw [heap_alloc_past _ _ (by omega)]; exact h.names, by rw [heap_alloc_past _ _ (by omega)]; exact h.links, by rw [heap_alloc_past _ _ (by omega)]; exact h.floor,
    by rw [heap_alloc_past _ _ (by omega)]; exact h.srch, by rw [heap_alloc_past _ _ (by omega)]; exact h.walk, by simp; omega⟩
theorem Road.drew (h : Road w n site procs links srch walk waitedAt floor) : Road w.drew n site procs links srch walk waitedAt floor :=
  ⟨h.index, h.site, h.waits, h.waited, h.procs, h.names, h.links, h.floor, h.srch, h.walk, h.size⟩
/-- Whatever leaves the blocks below m as they were leaves the road. -/
theorem Road.below {w' : World} {m : Nat} (h : Road w n site procs links srch walk waitedAt floor) (hb : Below m w w') (hm : n + 15 ≤ m) : Road w' n site procs links srch walk waitedAt floor :=
  ⟨(hb.block _ (by omega)).trans h.index, (hb.block _ (by omega)).trans h.site, (hb.block _ (by omega)).trans h.waits, (hb.block _ (by omega)).trans h.waited, (hb.block _ (by omega)).trans h.procs, (hb.block _ (by omega)).trans h.names,
    (hb.block _ (by omega)).trans h.links, (hb.block _ (by omega)).trans h.floor, (hb.block _ (by omega)).trans h.srch, (hb.block _ (by omega)).trans h.walk, Nat.le_trans h.size hb.size⟩

theorem heap_setCell_at {w : World} {b i : Nat} {c : Array Value} {t : TypeId} (v : Value) (h : w.heap[b]? = some (.cells c t)) : (w.setCell ⟨b, i, none⟩ v).heap[b]? = some (.cells (c.setIfInBounds i v) t) := by
  simp [World.setCell, Array.getElem?_modify, h]

theorem Road.setSite (h : Road w n site procs links srch walk waitedAt floor) (i : Nat) (v : Value) : Road (w.setCell ⟨n + 5, i, none⟩ v) n (site.setIfInBounds i v) procs links srch walk waitedAt floor := by
  have far : ∀ k, k ≠ n + 5 → (w.setCell ⟨n + 5, i, none⟩ v).heap[k]? = w.heap[k]? := fun k hk => Below.heap_setCell _ _ _ _ hk
  exact ⟨(far _ (by omega)).trans h.index, heap_setCell_at v h.site, (far _ (by omega)).trans h.waits, (far _ (by omega)).trans h.waited, (far _ (by omega)).trans h.procs, (far _ (by omega)).trans h.names,
    (far _ (by omega)).trans h.links, (far _ (by omega)).trans h.floor, (far _ (by omega)).trans h.srch, (far _ (by omega)).trans h.walk, by simpa [World.setCell] using h.size⟩
theorem Road.setProcs (h : Road w n site procs links srch walk waitedAt floor) (i : Nat) (v : Value) : Road (w.setCell ⟨n + 8, i, none⟩ v) n site (procs.setIfInBounds i v) links srch walk waitedAt floor := by
  have far : ∀ k, k ≠ n + 8 → (w.setCell ⟨n + 8, i, none⟩ v).heap[k]? = w.heap[k]? := fun k hk => Below.heap_setCell _ _ _ _ hk
  exact ⟨(far _ (by omega)).trans h.index, (far _ (by omega)).trans h.site, (far _ (by omega)).trans h.waits, (far _ (by omega)).trans h.waited, heap_setCell_at v h.procs, (far _ (by omega)).trans h.names,
    (far _ (by omega)).trans h.links, (far _ (by omega)).trans h.floor, (far _ (by omega)).trans h.srch, (far _ (by omega)).trans h.walk, by simpa [World.setCell] using h.size⟩
theorem Road.setLinks (h : Road w n site procs links srch walk waitedAt floor) (i : Nat) (v : Value) : Road (w.setCell ⟨n + 10, i, none⟩ v) n site procs (links.setIfInBounds i v) srch walk waitedAt floor := by
  have far : ∀ k, k ≠ n + 10 → (w.setCell ⟨n + 10, i, none⟩ v).heap[k]? = w.heap[k]? := fun k hk => Below.heap_setCell _ _ _ _ hk
  exact ⟨(far _ (by omega)).trans h.index, (far _ (by omega)).trans h.site, (far _ (by omega)).trans h.waits, (far _ (by omega)).trans h.waited, (far _ (by omega)).trans h.procs, (far _ (by omega)).trans h.names,
    heap_setCell_at v h.links, (far _ (by omega)).trans h.floor, (far _ (by omega)).trans h.srch, (far _ (by omega)).trans h.walk, by simpa [World.setCell] using h.size⟩
theorem Road.setSrch (h : Road w n site procs links srch walk waitedAt floor) (i : Nat) (v : Value) : Road (w.setCell ⟨n + 12, i, none⟩ v) n site procs links (srch.setIfInBounds i v) walk waitedAt floor := by
  have far : ∀ k, k ≠ n + 12 → (w.setCell ⟨n + 12, i, none⟩ v).heap[k]? = w.heap[k]? := fun k hk => Below.heap_setCell _ _ _ _ hk
  exact ⟨(far _ (by omega)).trans h.index, (far _ (by omega)).trans h.site, (far _ (by omega)).trans h.waits, (far _ (by omega)).trans h.waited, (far _ (by omega)).trans h.procs, (far _ (by omega)).trans h.names,
    (far _ (by omega)).trans h.links, (far _ (by omega)).trans h.floor, heap_setCell_at v h.srch, (far _ (by omega)).trans h.walk, by simpa [World.setCell] using h.size⟩

end

section
variable {w : World} {n : Nat} {pend prev ring settled rw : Value} {unr made cost num back : Int} {ini home : ByteArray} {dcl dead : Bool} {procs links srch walk site : Array Value} {waitedAt floor : Int}

theorem siteA_11 (v : Value) : (siteA n pend prev unr ring made).setIfInBounds 11 v = siteA n v prev unr ring made := by simp [siteA]
theorem siteA_13 (v : Value) : (siteA n pend prev unr ring made).setIfInBounds 13 v = siteA n pend v unr ring made := by simp [siteA]
theorem siteA_14 : (siteA n pend prev unr ring made).setIfInBounds 14 (.bool false) = siteA n pend prev unr ring made := by simp [siteA]
theorem siteA_15 : (siteA n pend prev unr ring made).setIfInBounds 15 (.int .i32 0) = siteA n pend prev unr ring made := by simp [siteA]
theorem siteA_16 : (siteA n pend prev unr ring made).setIfInBounds 16 (.int .i64 0) = siteA n pend prev unr ring made := by simp [siteA]
theorem siteA_17 : (siteA n pend prev unr ring made).setIfInBounds 17 (.int .i32 0) = siteA n pend prev unr ring made := by simp [siteA]
theorem siteA_18 : (siteA n pend prev unr ring made).setIfInBounds 18 (.bool false) = siteA n pend prev unr ring made := by simp [siteA]
theorem siteA_20 (v : Int) : (siteA n pend prev unr ring made).setIfInBounds 20 (.int .i64 v) = siteA n pend prev v ring made := by simp [siteA]
theorem siteA_21 (v : Value) : (siteA n pend prev unr ring made).setIfInBounds 21 v = siteA n pend prev unr v made := by simp [siteA]
theorem siteA_23 (v : Int) : (siteA n pend prev unr ring made).setIfInBounds 23 (.int .u64 v) = siteA n pend prev unr ring v := by simp [siteA]
theorem procsA_6 (v : Value) : (procsA n cost settled).setIfInBounds 6 v = procsA n cost v := by simp [procsA]
theorem linksA_3 (v : Bool) : (linksA dcl dead).setIfInBounds 3 (.bool v) = linksA v dead := by simp [linksA]
theorem linksA_4 (v : Bool) : (linksA dcl dead).setIfInBounds 4 (.bool v) = linksA dcl v := by simp [linksA]
theorem srchA_11 (v : Value) : (srchA n ini home num back rw dcl).setIfInBounds 11 v = srchA n ini home num back v dcl := by simp [srchA]
theorem srchA_13 (v : Bool) : (srchA n ini home num back rw dcl).setIfInBounds 13 (.bool v) = srchA n ini home num back rw v := by simp [srchA]

theorem Road.s11 (h : Road w n (siteA n pend prev unr ring made) procs links srch walk waitedAt floor) (v : Value) : Road (w.setCell ⟨n + 5, 11, none⟩ v) n (siteA n v prev unr ring made) procs links srch walk waitedAt floor := siteA_11 v ▸ h.setSite 11 v
theorem Road.s13 (h : Road w n (siteA n pend prev unr ring made) procs links srch walk waitedAt floor) (v : Value) : Road (w.setCell ⟨n + 5, 13, none⟩ v) n (siteA n pend v unr ring made) procs links srch walk waitedAt floor := siteA_13 v ▸ h.setSite 13 v
theorem Road.s14 (h : Road w n (siteA n pend prev unr ring made) procs links srch walk waitedAt floor) : Road (w.setCell ⟨n + 5, 14, none⟩ (.bool false)) n (siteA n pend prev unr ring made) procs links srch walk waitedAt floor := by have := h.setSite 14 (.bool false); rwa [siteA_14] at this
theorem Road.s15 (h : Road w n (siteA n pend prev unr ring made) procs links srch walk waitedAt floor) : Road (w.setCell ⟨n + 5, 15, none⟩ (.int .i32 0)) n (siteA n pend prev unr ring made) procs links srch walk waitedAt floor := by have := h.setSite 15 (.int .i32 0); rwa [siteA_15] at this
theorem Road.s16 (h : Road w n (siteA n pend prev unr ring made) procs links srch walk waitedAt floor) : Road (w.setCell ⟨n + 5, 16, none⟩ (.int .i64 0)) n (siteA n pend prev unr ring made) procs links srch walk waitedAt floor := by have := h.setSite 16 (.int .i64 0); rwa [siteA_16] at this
theorem Road.s17 (h : Road w n (siteA n pend prev unr ring made) procs links srch walk waitedAt floor) : Road (w.setCell ⟨n + 5, 17, none⟩ (.int .i32 0)) n (siteA n pend prev unr ring made) procs links srch walk waitedAt floor := by have := h.setSite 17 (.int .i32 0); rwa [siteA_17] at this
theorem Road.s18 (h : Road w n (siteA n pend prev unr ring made) procs links srch walk waitedAt floor) : Road (w.setCell ⟨n + 5, 18, none⟩ (.bool false)) n (siteA n pend prev unr ring made) procs links srch walk waitedAt floor := by have := h.setSite 18 (.bool false); rwa [siteA_18] at this
theorem Road.s20 (h : Road w n (siteA n pend prev unr ring made) procs links srch walk waitedAt floor) (v : Int) : Road (w.setCell ⟨n + 5, 20, none⟩ (.int .i64 v)) n (siteA n pend prev v ring made) procs links srch walk waitedAt floor := siteA_20 v ▸ h.setSite 20 (.int .i64 v)
theorem Road.s21 (h : Road w n (siteA n pend prev unr ring made) procs links srch walk waitedAt floor) (v : Value) : Road (w.setCell ⟨n + 5, 21, none⟩ v) n (siteA n pend prev unr v made) procs links srch walk waitedAt floor := siteA_21 v ▸ h.setSite 21 v
theorem Road.s23 (h : Road w n (siteA n pend prev unr ring made) procs links srch walk waitedAt floor) (v : Int) : Road (w.setCell ⟨n + 5, 23, none⟩ (.int .u64 v)) n (siteA n pend prev unr ring v) procs links srch walk waitedAt floor := siteA_23 v ▸ h.setSite 23 (.int .u64 v)
theorem Road.p6 (h : Road w n site (procsA n cost settled) links srch walk waitedAt floor) (v : Value) : Road (w.setCell ⟨n + 8, 6, none⟩ v) n site (procsA n cost v) links srch walk waitedAt floor := procsA_6 v ▸ h.setProcs 6 v
theorem Road.l3 (h : Road w n site procs (linksA dcl dead) srch walk waitedAt floor) (v : Bool) : Road (w.setCell ⟨n + 10, 3, none⟩ (.bool v)) n site procs (linksA v dead) srch walk waitedAt floor := linksA_3 v ▸ h.setLinks 3 (.bool v)
theorem Road.l4 (h : Road w n site procs (linksA dcl dead) srch walk waitedAt floor) (v : Bool) : Road (w.setCell ⟨n + 10, 4, none⟩ (.bool v)) n site procs (linksA dcl v) srch walk waitedAt floor := linksA_4 v ▸ h.setLinks 4 (.bool v)
theorem Road.q11 (h : Road w n site procs links (srchA n ini home num back rw dcl) walk waitedAt floor) (v : Value) : Road (w.setCell ⟨n + 12, 11, none⟩ v) n site procs links (srchA n ini home num back v dcl) walk waitedAt floor := srchA_11 v ▸ h.setSrch 11 v
theorem Road.q13 (h : Road w n site procs links (srchA n ini home num back rw dcl) walk waitedAt floor) (v : Bool) : Road (w.setCell ⟨n + 12, 13, none⟩ (.bool v)) n site procs links (srchA n ini home num back rw v) walk waitedAt floor := srchA_13 v ▸ h.setSrch 13 (.bool v)

/-- A store into a block that is not the road's. -/
theorem Road.far (h : Road w n site procs links srch walk waitedAt floor) {p : Addr} (hp : n + 15 ≤ p.block) (v : Value) : Road (w.setCell p v) n site procs links srch walk waitedAt floor :=
  h.below (m := n + 15) ((Below.refl _ _).setCell hp v) (Nat.le_refl _)
end

theorem Keep.site {n : Nat} {a w : World} (h : Keep n a w) (i : Nat) (v : Value) : Keep n a (w.setCell ⟨n + 5, i, none⟩ v) := h.setCell (by show n < n + 5; omega) (by show n + 5 < n + 15; omega) v
theorem Keep.procs {n : Nat} {a w : World} (h : Keep n a w) (i : Nat) (v : Value) : Keep n a (w.setCell ⟨n + 8, i, none⟩ v) := h.setCell (by show n < n + 8; omega) (by show n + 8 < n + 15; omega) v
theorem Keep.links {n : Nat} {a w : World} (h : Keep n a w) (i : Nat) (v : Value) : Keep n a (w.setCell ⟨n + 10, i, none⟩ v) := h.setCell (by show n < n + 10; omega) (by show n + 10 < n + 15; omega) v
theorem Keep.srch {n : Nat} {a w : World} (h : Keep n a w) (i : Nat) (v : Value) : Keep n a (w.setCell ⟨n + 12, i, none⟩ v) := h.setCell (by show n < n + 12; omega) (by show n + 12 < n + 15; omega) v

/-- A cell, a mark out of a block that is known whole. -/
theorem cell_in {w : World} {b : Nat} {c : Array Value} {t : TypeId} (h : w.heap[b]? = some (.cells c t)) (i : Nat) : w.cell? ⟨b, i, none⟩ = c[i]? := by simp [World.cell?, h]
theorem free_in {w : World} {b : Nat} {c : Array Value} {t : TypeId} (h : w.heap[b]? = some (.cells c t)) (i : Nat) : w.frozen? ⟨b, i, none⟩ = false := by simp [World.frozen?, h]

end Go.Proofs.Ybulkbviq
