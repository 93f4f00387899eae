/-
  LawS3591CRing: the walk.
-/
import Derived.Test.YbulkbviqRingPlain
import Derived.WalkKit
import Derived.WalkSpells
import Derived.BigQuiet
import Derived.Deep.QuietTactic
import Derived.Deep.RegionHeld3
import Derived.Deep.AppendLies
import Derived.Deep.DrawnRows
namespace Go.Proofs.Ybulkbviq
open Go.RowKit Go.ChangeMaps
attribute [local go_sem ↓] Go.wp_at_zero Go.wp_at_succ

theorem info67 : (Yba.prog.info? 67).map (fun i => (i.zero, i.size, i.bytes)) = some (some (.agg #[.string ⟨#[]⟩, .string ⟨#[]⟩, .string ⟨#[]⟩]), 3, 48) := by kernel_rfl

set_option maxRecDepth 100000 in
set_option maxHeartbeats 3200000 in
theorem ring_walk (site home ini vic : ByteArray) (num : Int) (a : Option Addr) (n cap : Nat) (Wt Pr St : Nat → ByteArray) (w : World) (hn : n ≤ 1024)
    (ha : 0 < n → ∃ b off, a = some ⟨b, off, none⟩ ∧ b < w.heap.size ∧ ∀ i, i < n → w.cell? ⟨b, off + i * 3, none⟩ = some (.string (Wt i)) ∧ w.cell? ⟨b, off + i * 3 + 1, none⟩ = some (.string (Pr i)) ∧ w.cell? ⟨b, off + i * 3 + 2, none⟩ = some (.string (St i))) :
    Calls Yba.prog 5 #[.string site, .string home, .string ini, .int .u64 num, .string vic, .slice a n cap] w fun e w' => e = .returned (.bool true) ∧ Below w.heap.size w w' := by
  obtain ⟨i0, hi0, hz0, hz1, hz2⟩ := info_parts info67
  have HA := ha
  have hha : Hid (0 < n → ∃ b off, a = some ⟨b, off, none⟩ ∧ b < w.heap.size ∧ ∀ i, i < n → w.cell? ⟨b, off + i * 3, none⟩ = some (.string (Wt i)) ∧ w.cell? ⟨b, off + i * 3 + 1, none⟩ = some (.string (Pr i)) ∧ w.cell? ⟨b, off + i * 3 + 2, none⟩ = some (.string (St i))) := ha
  clear ha HA
  have h24 : decide ((1024 : Int) < (n : Int)) = false := by simp; omega
  go_enter Yba.func5, Yba.ntmps5
  go_wp2_with fail
  refine (newSite_any site _).mono ?_
  rintro e w1 ⟨rfl, hm⟩
  have hcell : w1.cell? ⟨w.heap.size + 4, 0, Option.none⟩ = some (.string site) := by simp [World.cell?, hm.site, siteCells]
  have hsz : w.heap.size + 4 < w1.heap.size := by rw [hm.size]; omega
  have hbel1 := hm.below
  clear hm
  go_wp2_with (at_make; refine wpList_make_own _ rfl _ _ 39 rfl w1.heap.size 67 i0 _ 3 Yba.underlying39 hi0 hz0 hz1 _ _ _ n rfl rfl rfl (by rw [hz2]; omega) (by unfold maxLen; omega) (Nat.le_refl _) ?_; intro w2 hown2 hgrow2)
  have hbel2 : Below w1.heap.size w1 w2 := (Below.refl _ _).grown hgrow2 (Nat.le_refl _) (fun k h => by cases h)
  clear hgrow2
  go_loopw [14, 15] (fun v i wr => ∃ k g c : Nat, k ≤ n ∧ i = .int .i64 k ∧ v = .slice (some ⟨g, 0, none⟩) k c ∧ wr.ownsRow w1.heap.size 67 3 (.slice (some ⟨g, 0, none⟩) k c) k (ringCells Wt Pr St k) ∧ Below w1.heap.size w1 wr)
    (fun _ i _ => n - (intOf i).toNat)
  case atStart => exact ⟨0, _, _, Nat.zero_le _, rfl, rfl, hown2, hbel2⟩
  case round =>
    clear hown2 hbel2
    obtain ⟨k, g, c, hk, rfl, rfl, hown, hbel⟩ := hrel
    by_cases hlt : k < n
    · obtain ⟨b, off, hab, hb, hcs⟩ := hha.out (by omega)
      subst hab
      obtain ⟨hc0, hc1, hc2⟩ := hcs k hlt
      have hb1 : b < w1.heap.size := Nat.lt_of_lt_of_le hb hbel1.size
      have hb2 : b < wr.heap.size := Nat.lt_of_lt_of_le hb1 hbel.size
      have lift : ∀ o, wr.cell? ⟨b, o, none⟩ = w.cell? ⟨b, o, none⟩ := fun o => (hbel.cell (p := ⟨b, o, none⟩) hb1).trans (hbel1.cell (p := ⟨b, o, none⟩) hb)
      have kc0 : wr.cell? ⟨b, off + k * 3, none⟩ = some (.string (Wt k)) := (lift _).trans hc0
      have kc1 : wr.cell? ⟨b, off + k * 3 + 1, none⟩ = some (.string (Pr k)) := (lift _).trans hc1
      have kc2 : wr.cell? ⟨b, off + k * 3 + 2, none⟩ = some (.string (St k)) := (lift _).trans hc2
      have hlti : (k : Int) < (n : Int) := by omega
      have hki : (0 : Int) ≤ (k : Int) := by omega
      have hbs := hbel.size
      have hgr := hown.lt g rfl
      have nb : some b ≠ some g := fun e => by cases e; omega
      clear hcs lift hc0 hc1 hc2
      go_wp2
      go_region_held3 (fun w' => w'.cell? ⟨b, off + k * 3, none⟩ = some (.string (Wt k)) ∧ w'.cell? ⟨b, off + k * 3 + 1, none⟩ = some (.string (Pr k)) ∧ w'.cell? ⟨b, off + k * 3 + 2, none⟩ = some (.string (St k)))
        (first
          | go_keep
          | (go_split_ands
             refine ⟨?_, ?_, ?_⟩
             · (rw [hgrow.cell_far _ (by simp; omega) nb]; assumption)
             · (rw [hgrow.cell_far _ (by simp; omega) nb]; assumption)
             · (rw [hgrow.cell_far _ (by simp; omega) nb]; assumption)))
        ((refine step_append_lies _ (by rfl) _ _ _ (by rfl) w1.heap.size 67 i0 _ 3 48 Yba.underlying39 hi0 hz0 hz1 hz2 rfl (by omega) _ k _ (by rfl) ((hown.alloc _).drew) ⟨wr.heap.size, 0, none⟩ 1 1 [.string (Wt k), .string (Pr k), .string (St k)] (by rfl) (by rfl) (World.news_of_block (cs := #[.string (Wt k), .string (Pr k), .string (St k)]) (t := 67) (fr := (0, 0)) (heap_alloc_new wr _)) (by simp [Value.oneCell']) (by omega) (by unfold maxLen; omega) (by omega) (by simp; omega) (wr.heap.size + 1) (by simp) ?_; intro g2 c2 w3 hown3 hgrow hat hlt3))
      go_wp2
      have hb3 := (((hbel.alloc hbs _).drew)).grown hgrow (by simp; omega) (fun j hj => (hown.lt j hj).1)
      go_roundw
      case rel => exact ⟨k + 1, g2, c2, by omega, by go_num, rfl, hown3, hb3⟩
      case measure => simp [intOf]; omega
    · have hkn : k = n := by omega
      subst hkn
      have hbs := hbel.size
      have hgr := hown.lt g rfl
      have hadd : ∀ j, (⟨g, 0, none⟩ : Addr).add j = ⟨g, j, none⟩ := fun j => by unfold Addr.add; split <;> simp_all
      have hrc : ∀ j u, (ringCells Wt Pr St k)[j]? = some u → wr.cell? ⟨g, j, none⟩ = some u := fun j u hu => by rw [← hadd]; exact hown.cells (g := g) rfl j u hu
      have hsr : wr.cell? ⟨w.heap.size + 4, 0, none⟩ = some (.string site) := (hbel.cell (p := ⟨w.heap.size + 4, 0, none⟩) hsz).trans hcell
      have HR : Hid (∀ j u, (ringCells Wt Pr St k)[j]? = some u → wr.cell? ⟨g, j, none⟩ = some u) := hrc
      clear hrc hadd hown hcell
      go_wp2_with fail
      refine (lapsesOn_any (w.heap.size + 4) wr.heap.size g k c ini home site vic num Wt Pr St _ ?h1 ?h2 ?h3 ?h4 ?h5 ?h6 ?h7 ?h8 ?h9 hn ?h10).mono ?_
      case h1 => simp; omega
      case h2 => simp
      case h3 => simp; omega
      case h4 => rw [World.cell?_alloc_past _ _ _ (by omega)]; exact hsr
      case h5 => simp [World.cell?_alloc_at]
      case h6 => simp [World.cell?_alloc_at]
      case h7 => simp [World.cell?_alloc_at]
      case h8 => simp [World.cell?_alloc_at]
      case h9 => simp [World.frozen?_alloc_at]
      case h10 =>
        intro i hi
        have := ringCells_at Wt Pr St k i hi
        refine ⟨?_, ?_, ?_⟩
        · rw [World.cell?_alloc_past _ _ _ (by omega)]; exact HR.out _ _ this.1
        · rw [World.cell?_alloc_past _ _ _ (by omega)]; exact HR.out _ _ this.2.1
        · rw [World.cell?_alloc_past _ _ _ (by omega)]; exact HR.out _ _ this.2.2
      rintro e w3 ⟨v, rfl, hown3, hq11, hs3, hfr, hos, htp, hou⟩
      obtain ⟨ao, cp, rfl, hmsg⟩ := owns_msgs hown3
      have hbel3 : Below w.heap.size w w3 := ⟨hos.trans (hbel.os.trans hbel1.os), htp.trans (hbel.tape.trans hbel1.tape), hou.trans (hbel.output.trans hbel1.output), by simp at hs3; omega, fun j hj => by
        rw [hfr j (by simp; omega) (by omega), heap_alloc_past _ _ (by omega), hbel.block j (by omega), hbel1.block j hj]⟩
      have HM : Hid (0 < (laps ini num site home vic Wt Pr St k).length → ∃ g, ao = some ⟨g, 0, none⟩ ∧ wr.heap.size + 1 ≤ g ∧ g < w3.heap.size ∧ ∀ j u, (laps ini num site home vic Wt Pr St k).flatten[j]? = some u → w3.cell? ⟨g, j, none⟩ = some u) := by
        simp only [World.size_alloc] at hmsg
        exact hmsg
      have hs4 : wr.heap.size + 1 ≤ w3.heap.size := by simpa using hs3
      have hneq := fun (w : World) (a : Option Addr) (n c : Nat) => run_neq_slice_nil_any (P := Yba.prog) w 39 67 a n c 0 0 Yba.underlying39
      have hll := laps_le ini num site home vic Wt Pr St k
      clear hfr hown3 hmsg hos htp hou hs3 hbel hbel1 hgr HR hsr
      go_wp2_with fail
      go_loopw [18, 19] (fun cnt i wx => ∃ q : Nat, q ≤ k ∧ i = .int .i64 q ∧ cnt = .int .i64 ((laps ini num site home vic Wt Pr St q).length : Nat) ∧ Below w3.heap.size w3 wx)
        (fun _ i _ => k - (intOf i).toNat)
      case atStart => exact ⟨0, Nat.zero_le _, rfl, rfl, Below.refl _ _⟩
      case round =>
        obtain ⟨q, hq, rfl, rfl, hbx⟩ := hrel
        have hxs := hbx.size
        have hlq := laps_le ini num site home vic Wt Pr St q
        by_cases hlt : q < k
        · obtain ⟨b, off, hab, hb, hcs⟩ := hha.out (by omega)
          subst hab
          obtain ⟨hc0, hc1, hc2⟩ := hcs q hlt
          have hb3 : b < w3.heap.size := Nat.lt_of_lt_of_le hb hbel3.size
          have lift : ∀ o, wr.cell? ⟨b, o, none⟩ = w.cell? ⟨b, o, none⟩ := fun o => (hbx.cell (p := ⟨b, o, none⟩) hb3).trans (hbel3.cell (p := ⟨b, o, none⟩) hb)
          have kc0 : wr.cell? ⟨b, off + q * 3, none⟩ = some (.string (Wt q)) := (lift _).trans hc0
          have kc1 : wr.cell? ⟨b, off + q * 3 + 1, none⟩ = some (.string (Pr q)) := (lift _).trans hc1
          have kc2 : wr.cell? ⟨b, off + q * 3 + 2, none⟩ = some (.string (St q)) := (lift _).trans hc2
          have hlti : (q : Int) < (k : Int) := by omega
          have hki : (0 : Int) ≤ (q : Int) := by omega
          clear hcs lift hc0 hc1 hc2
          by_cases hh : ((St q).toList == home.toList) = true
          · go_wp2
            go_roundw
            case rel => exact ⟨q + 1, by omega, by go_num, by simp [laps, hh], hbx.alloc hxs _⟩
            case measure => simp [intOf]; omega
          · have hf : ((St q).toList == home.toList) = false := by simpa using hh
            clear hh
            obtain ⟨hlL, hce⟩ := laps_at ini num site home vic Wt Pr St hlt hf
            obtain ⟨g2, hg2, hg2a, hg2b, hg2c⟩ := HM.out (by omega)
            subst hg2
            have hmc : ∀ j, j < 14 → wr.cell? ⟨g2, (laps ini num site home vic Wt Pr St q).length * 14 + j, none⟩ = (gCells ini num (Wt q) site (Pr q) (St q) vic)[j]? := fun j hj => by
              rw [hbx.cell (p := ⟨g2, (laps ini num site home vic Wt Pr St q).length * 14 + j, none⟩) hg2b]
              have hlen : j < (gCells ini num (Wt q) site (Pr q) (St q) vic).length := by simp [gCells]; omega
              rw [List.getElem?_eq_getElem hlen]
              exact hg2c _ _ ((hce j hj).trans (List.getElem?_eq_getElem hlen))
            have m0 := hmc 0 (by omega)
            have m1 := hmc 1 (by omega)
            have m2 := hmc 2 (by omega)
            have m3 := hmc 3 (by omega)
            have m4 := hmc 4 (by omega)
            have m5 := hmc 5 (by omega)
            have m6 := hmc 6 (by omega)
            have m7 := hmc 7 (by omega)
            have m8 := hmc 8 (by omega)
            have m9 := hmc 9 (by omega)
            have m10 := hmc 10 (by omega)
            have m11 := hmc 11 (by omega)
            have m12 := hmc 12 (by omega)
            have m13 := hmc 13 (by omega)
            simp only [gCells, List.getElem?_cons_zero, List.getElem?_cons_succ, Nat.add_zero] at m0 m1 m2 m3 m4 m5 m6 m7 m8 m9 m10 m11 m12 m13
            have hg2s : g2 < wr.heap.size := Nat.lt_of_lt_of_le hg2b hxs
            have hLi : ((laps ini num site home vic Wt Pr St q).length : Int) < ((laps ini num site home vic Wt Pr St k).length : Int) := by omega
            have hL0 : (0 : Int) ≤ ((laps ini num site home vic Wt Pr St q).length : Int) := by omega
            clear hmc hce hg2c
            have HF : Hid (((St q).toList == home.toList) = false) := hf
            go_wp2
            go_region
            go_wp2
            go_roundw
            case rel => exact ⟨q + 1, by omega, by go_num, by rw [laps, if_neg (by rw [HF.out]; simp)]; simp, ((hbx.alloc hxs _).alloc (by simp; omega) _).drew⟩
            case measure => simp [intOf]; omega
        · have hqk : q = k := by omega
          subst hqk
          go_wp2
          go_ret
          exact ⟨rfl, hbel3.trans (hbx.mono hbel3.size)⟩
end Go.Proofs.Ybulkbviq
