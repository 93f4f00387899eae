/-
  lapsesOn: the contract.
-/
import Derived.Test.YbulkbviqSite
import Derived.WalkKit
import Derived.WalkSpells
import Derived.BigQuiet
import Derived.Deep.QuietTactic
import Derived.Deep.RegionHeld3
import Derived.Deep.AppendLies
import Derived.Deep.DrawnRows
namespace Go.Proofs.Ybulkbviq
open Go.RowKit Go.ChangeMaps
attribute [local go_sem ↓] Go.wp_at_zero Go.wp_at_succ

/-- The cells of the lapse that grantLapse makes. -/
def gCells (ini : ByteArray) (n : Int) (snd site tp ts vic : ByteArray) : List Value :=
  [.int .i64 6, .string ini, .int .u64 n, .string snd, .string site, .string tp, .string ts, .int .i64 0, .string vic, .string ⟨#[]⟩, .int .u64 0, .int .u64 0, .string ⟨#[]⟩, .int .u64 0]

/-- The lapses along the first k waits (waiter, holder, the holder's site), those to 'home' left out. -/
def laps (ini : ByteArray) (n : Int) (site home vic : ByteArray) (Wt Pr St : Nat → ByteArray) : Nat → List (List Value)
  | 0 => []
  | k + 1 => laps ini n site home vic Wt Pr St k ++ (if ((St k).toList == home.toList) = true then [] else [gCells ini n (Wt k) site (Pr k) (St k) vic])

theorem laps_le (ini : ByteArray) (n : Int) (site home vic : ByteArray) (Wt Pr St : Nat → ByteArray) : ∀ k, (laps ini n site home vic Wt Pr St k).length ≤ k
  | 0 => Nat.le_refl _
  | k + 1 => by
    have := laps_le ini n site home vic Wt Pr St k
    unfold laps
    split <;> simp <;> omega

theorem grownBy_of_below {w w' : World} (h : Below w.heap.size w w') : w.grownBy w' Option.none := ⟨h.os, h.tape, h.output, h.size, fun k hk _ => h.block k hk⟩
theorem ownsRow_of_below {w w' : World} {base : Nat} {e : TypeId} {size : Nat} {v : Value} {n : Nat} {xs : List Value} (h : w.ownsRow base e size v n xs) (hb : Below w.heap.size w w') : w'.ownsRow base e size v n xs :=
  h.kept (grownBy_of_below hb) (by cases hv : v.ownBlock <;> simp)

theorem info31 : (Yba.prog.info? 31).map (fun i => (i.zero, i.size, i.bytes)) = some (some (.agg #[.int .i64 0, .string ⟨#[]⟩, .int .u64 0, .string ⟨#[]⟩, .string ⟨#[]⟩, .string ⟨#[]⟩, .string ⟨#[]⟩, .int .i64 0, .string ⟨#[]⟩, .string ⟨#[]⟩, .int .u64 0, .int .u64 0, .string ⟨#[]⟩, .int .u64 0]), 14, 176) := by kernel_rfl

set_option maxRecDepth 100000 in
set_option maxHeartbeats 1600000 in
theorem lapsesOn_any (sb qb rb n cap : Nat) (ini home site vic : ByteArray) (num : Int) (Wt Pr St : Nat → ByteArray) (w : World) (hsb : sb < w.heap.size) (hqb : qb < w.heap.size) (hrb : rb < w.heap.size)
    (hsc : w.cell? ⟨sb, 0, none⟩ = some (.string site)) (hq0 : w.cell? ⟨qb, 0, none⟩ = some (.string ini)) (hq1 : w.cell? ⟨qb, 1, none⟩ = some (.string home)) (hq3 : w.cell? ⟨qb, 3, none⟩ = some (.int .u64 num))
    (hq11 : w.cell? ⟨qb, 11, none⟩ = some (.slice (some ⟨rb, 0, none⟩) n cap)) (hqf : w.frozen? ⟨qb, 11, none⟩ = false) (hn : n ≤ 1024)
    (hw : ∀ i, i < n → w.cell? ⟨rb, i * 3, none⟩ = some (.string (Wt i)) ∧ w.cell? ⟨rb, i * 3 + 1, none⟩ = some (.string (Pr i)) ∧ w.cell? ⟨rb, i * 3 + 2, none⟩ = some (.string (St i))) :
    Calls Yba.prog 10 #[.pointer (some ⟨sb, 0, none⟩), .pointer (some ⟨qb, 0, none⟩), .string vic] w fun e w' => ∃ v, e = .returned v ∧
      w'.ownsRow w.heap.size 31 14 v (laps ini num site home vic Wt Pr St n).length (laps ini num site home vic Wt Pr St n).flatten ∧
      w'.cell? ⟨qb, 11, none⟩ = some (.slice none 0 0) ∧ w.heap.size ≤ w'.heap.size ∧ (∀ k, k < w.heap.size → k ≠ qb → w'.heap[k]? = w.heap[k]?) ∧ w'.os = w.os ∧ w'.tape = w.tape ∧ w'.output = w.output := by
  obtain ⟨i0, hi0, hz0, hz1, hz2⟩ := info_parts info31
  go_enter Yba.func10, Yba.ntmps10
  go_wp2
  go_loopw [7, 15] (fun v i wr => ∃ k : Nat, k ≤ n ∧ i = .int .i64 k ∧ wr.ownsRow w.heap.size 31 14 v (laps ini num site home vic Wt Pr St k).length (laps ini num site home vic Wt Pr St k).flatten ∧ Below w.heap.size w wr)
    (fun _ i _ => n - (intOf i).toNat)
  case atStart => exact ⟨0, Nat.zero_le _, rfl, World.ownsRow_nil _ _ _ _, Below.refl _ _⟩
  case round =>
    obtain ⟨k, hk, rfl, hown, hbel⟩ := hrel
    by_cases hlt : k < n
    · obtain ⟨hc0, hc1, hc2⟩ := hw k hlt
      have kc0 : wr.cell? ⟨rb, k * 3, none⟩ = some (.string (Wt k)) := (hbel.cell (p := ⟨rb, k * 3, none⟩) hrb).trans hc0
      have kc1 : wr.cell? ⟨rb, k * 3 + 1, none⟩ = some (.string (Pr k)) := (hbel.cell (p := ⟨rb, k * 3 + 1, none⟩) hrb).trans hc1
      have kc2 : wr.cell? ⟨rb, k * 3 + 2, none⟩ = some (.string (St k)) := (hbel.cell (p := ⟨rb, k * 3 + 2, none⟩) hrb).trans hc2
      clear hw hc0 hc1 hc2
      have hlti : (k : Int) < (n : Int) := by omega
      have hki : (0 : Int) ≤ (k : Int) := by omega
      have kq1 : wr.cell? ⟨qb, 1, none⟩ = some (.string home) := (hbel.cell (p := ⟨qb, 1, none⟩) hqb).trans hq1
      have hqr : qb < wr.heap.size := Nat.lt_of_lt_of_le hqb hbel.size
      have kq0 : wr.cell? ⟨qb, 0, none⟩ = some (.string ini) := (hbel.cell (p := ⟨qb, 0, none⟩) hqb).trans hq0
      have kq3 : wr.cell? ⟨qb, 3, none⟩ = some (.int .u64 num) := (hbel.cell (p := ⟨qb, 3, none⟩) hqb).trans hq3
      have ks0 : wr.cell? ⟨sb, 0, none⟩ = some (.string site) := (hbel.cell (p := ⟨sb, 0, none⟩) hsb).trans hsc
      have hqr1 : qb < wr.heap.size + 1 := by omega
      have hsr : sb < wr.heap.size := Nat.lt_of_lt_of_le hsb hbel.size
      have hll := laps_le ini num site home vic Wt Pr St k
      have hbs := hbel.size
      have hob : ∀ b, u7.ownBlock = some b → w.heap.size ≤ b ∧ b < wr.heap.size := fun b hb => hown.lt b hb
      have nq : some qb ≠ u7.ownBlock := fun e => by have := hob _ e.symm; omega
      have nN : some wr.heap.size ≠ u7.ownBlock := fun e => by have := hob _ e.symm; omega
      by_cases hh : ((St k).toList == home.toList) = true
      · go_wp2
        go_region
        go_wp2
        go_roundw
        case rel => exact ⟨k + 1, by omega, by go_num, by simpa [laps, hh] using (hown.alloc _).drew, (hbel.alloc hbs _).drew⟩
        case measure => simp [intOf]; omega
      · have hf : ((St k).toList == home.toList) = false := by simpa using hh
        clear hh
        go_wp2
        go_region
        go_wp2
        go_region_held3 (fun w' => w'.cell? ⟨qb, 0, none⟩ = some (.string ini) ∧ w'.cell? ⟨qb, 3, none⟩ = some (.int .u64 num) ∧ w'.cell? ⟨wr.heap.size, 0, none⟩ = some (.string (Wt k)) ∧ w'.cell? ⟨wr.heap.size, 1, none⟩ = some (.string (Pr k)) ∧ w'.cell? ⟨wr.heap.size, 2, none⟩ = some (.string (St k)))
          (first
            | go_keep
            | (go_split_ands
               refine ⟨?_, ?_, ?_, ?_, ?_⟩
               · (rw [hgrow.cell_far _ (by simp; omega) nq]; first | assumption | (rw [World.cell?_alloc_past _ _ _ (by omega), hcc _ _ (by omega)]; simp [World.cell?_alloc_past, World.cell?_alloc_at, kq0, kq3, hqr]))
               · (rw [hgrow.cell_far _ (by simp; omega) nq]; first | assumption | (rw [World.cell?_alloc_past _ _ _ (by omega), hcc _ _ (by omega)]; simp [World.cell?_alloc_past, World.cell?_alloc_at, kq0, kq3, hqr]))
               · (rw [hgrow.cell_far _ (by simp; omega) nN]; first | assumption | (rw [World.cell?_alloc_past _ _ _ (by omega), hcc _ _ (by omega)]; simp [World.cell?_alloc_past, World.cell?_alloc_at, kq0, kq3, hqr]))
               · (rw [hgrow.cell_far _ (by simp; omega) nN]; first | assumption | (rw [World.cell?_alloc_past _ _ _ (by omega), hcc _ _ (by omega)]; simp [World.cell?_alloc_past, World.cell?_alloc_at, kq0, kq3, hqr]))
               · (rw [hgrow.cell_far _ (by simp; omega) nN]; first | assumption | (rw [World.cell?_alloc_past _ _ _ (by omega), hcc _ _ (by omega)]; simp [World.cell?_alloc_past, World.cell?_alloc_at, kq0, kq3, hqr]))))
          (first
            | (go_at_call 9; refine (grantLapse_any sb 0 ini num (Wt k) site (Pr k) (St k) vic _ ?_ ?_).mono ?_; (simp; omega); (simp [World.cell?_alloc_past, ks0, hsr]); (rintro e w1 ⟨rfl, hB1⟩; unfold gMsg; have hcc : ∀ b o, b < wr.heap.size + 1 → w1.cell? ⟨b, o, none⟩ = _ := fun b o h => hB1.cell (p := ⟨b, o, none⟩) (by simpa using h); have hz1' : wr.heap.size + 1 ≤ w1.heap.size := by simpa using hB1.size))
            | (refine step_append_lies _ (by rfl) _ _ _ (by rfl) w.heap.size 31 i0 _ 14 176 Yba.underlying32 hi0 hz0 hz1 hz2 rfl (by omega) u7 _ _ (by rfl) ((ownsRow_of_below ((hown.alloc _).drew.drew) hB1).alloc _) ⟨w1.heap.size, 0, none⟩ 1 1 (gCells ini num (Wt k) site (Pr k) (St k) vic) (by rfl) (by rfl) (World.news_of_block (cs := (gCells ini num (Wt k) site (Pr k) (St k) vic).toArray) (t := 31) (fr := (0, 0)) (heap_alloc_new w1 _)) (by simp [Value.oneCell', gCells]) (by omega) (by unfold maxLen; omega) (by omega) (by simp; omega) (w1.heap.size + 1) (by simp) ?_; intro g cap w2 hown2 hgrow hat hlt2))
        go_wp2
        have hb1 : Below w.heap.size w w1 := ((hbel.alloc hbs _).drew.drew).trans (hB1.mono (by simp; omega))
        have hb2 := (hb1.alloc (by omega) _).grown hgrow (by simp; omega) (fun b hb => (hob b hb).1)
        go_roundw
        case rel => exact ⟨k + 1, by omega, by go_num, by simpa [laps, hf] using hown2, hb2⟩
        case measure => simp [intOf]; omega
    · have kq11 : wr.cell? ⟨qb, 11, none⟩ = some (.slice (some ⟨rb, 0, none⟩) n cap) := (hbel.cell (p := ⟨qb, 11, none⟩) hqb).trans hq11
      have kqf : wr.frozen? ⟨qb, 11, none⟩ = false := (hbel.frozen (p := ⟨qb, 11, none⟩) hqb).trans hqf
      have hkn : k = n := by omega
      subst hkn
      clear hw
      go_wp2
      go_ret
      refine ⟨u7, rfl, ?_, ?_, ?_, ?_, hbel.os, hbel.tape, hbel.output⟩
      · exact ownsRow_setCell_below hown hqb _
      · simp [go_sem, kq11]
      · simpa [World.setCell] using hbel.size
      · intro j hj hne
        rw [Below.heap_setCell _ _ _ _ hne]
        exact hbel.block j hj
end Go.Proofs.Ybulkbviq
