/- LawS0579BModel, LawS0579BLookup: SetSymbol (14). -/
import Derived.Test.YbulkkyuBWalk3
import Derived.Deep.RegionWith
import Derived.Deep.RegionHeld3
import Derived.Deep.DrawnRows
namespace Go.Proofs.Ybulkkyu.BSym
open Go.RowKit
set_option linter.unusedVariables false
attribute [local go_sem ↓] Go.wp_at_zero Go.wp_at_succ

/-- the name is there: its first definition names num -/
theorem set_hit (F b n k0 : Nat) (nm rv : Nat → ByteArray) (name num : ByteArray) (w : World) (hn : n ≤ 1024) (hk0 : k0 < n) (hit0 : hit nm name k0 = true) (miss : ∀ i, i < k0 → hit nm name i = false)
    (hF : F < w.heap.size) (hb : b < w.heap.size) (hFb : F ≠ b) (hcF : w.cell? ⟨F, 3, none⟩ = some (.slice (some ⟨b, 0, none⟩) n n)) (hs : w.rowIs b 48 (n * 2) (pairF nm rv)) :
    Calls Yba.prog 14 #[.pointer (some ⟨F, 0, none⟩), .string name, .string num] w
      fun e w' => e = .returned (.tuple #[]) ∧ w'.cell? ⟨F, 3, none⟩ = some (.slice (some ⟨b, 0, none⟩) n n) ∧ w'.rowIs b 48 (n * 2) (pairF nm (fun i => if i = k0 then num else rv i)) ∧ (∀ B, B ≤ b → Below B w w') := by
  have HI := (show Hid _ from index_hit b n n k0 nm rv name w.heap.size (w.alloc (.cells #[.string name] 9)) hn hk0 hit0 miss (by simp) (by simp) (by simp; omega) (hs.alloc _))
  have HB0 : Hid (Below w.heap.size w (w.alloc (.cells #[.string name] 9))) := (Below.refl _ _).alloc (Nat.le_refl _) _
  have HS : Hid (w.rowIs b 48 (n * 2) (pairF nm rv)) := hs
  clear hit0 miss hs
  go_enter Yba.func14, Yba.ntmps14
  go_wp2_with fail
  refine Calls.mono HI.out ?_
  rintro e w1 ⟨rfl, hb1⟩
  have HB1 : Hid (Below w.heap.size w w1) := HB0.out.trans (hb1.mono (by simp))
  have cF : w1.cell? ⟨F, 3, none⟩ = some (.slice (some ⟨b, 0, none⟩) n n) := (HB1.out.cell hF).trans hcF
  have HR1 : Hid (w1.rowIs b 48 (n * 2) (pairF nm rv)) := World.rowIs.of_block HS.out (HB1.out.block b hb)
  obtain ⟨v1, d1⟩ : ∃ v, w1.cell? ⟨b, k0 * 2 + 1, none⟩ = some v := ⟨_, World.rowIs.cell HR1.out (by omega)⟩
  have f1 : w1.frozen? ⟨b, k0 * 2 + 1, none⟩ = false := World.rowIs.frozen HR1.out _
  have hki : (k0 : Int) < (n : Int) := by omega
  clear hb1 HI HB0 hcF
  go_wp2
  go_end0
  refine ⟨rfl, ?_, ?_, fun B hB => ?_⟩
  · rw [World.cell?_setCell_other _ _ _ _ (by intro h; simp at h)]; exact cF
  · refine (World.rowIs.set HR1.out (k0 * 2 + 1) (.string num)).congr (fun j hj => ?_)
    by_cases e : j = k0 * 2 + 1
    · subst e
      rw [if_pos rfl, pair_odd, if_pos rfl]
    · rw [if_neg e]
      unfold pairF
      by_cases e2 : j % 2 = 0
      · rw [if_pos e2, if_pos e2]
      · rw [if_neg e2, if_neg e2]
        show _ = Value.string (if j / 2 = k0 then num else rv (j / 2))
        rw [if_neg (by omega)]
  · exact (HB1.out.mono (by omega)).setCell hB _

/-- slices.Insert, its variadic argument just laid -/
theorem insert_new (x : Option Addr) (b n : Nat) (nm rv : Nat → ByteArray) (name num : ByteArray) (w : World) (hn : n ≤ 1024) (hx : 0 < n → x = some ⟨b, 0, none⟩ ∧ b < w.heap.size ∧ w.rowIs b 48 (n * 2) (pairF nm rv)) :
    Calls Yba.prog 23 #[.slice x n n, .int .i64 0, .slice (some ⟨w.heap.size, 0, none⟩) 1 1] (w.alloc (.cells #[.string name, .string num] 48)).drew
      fun e w' => ∃ g cap : Nat, e = .returned (.slice (some ⟨g, 0, none⟩) (n + 1) cap) ∧ Hid (w.heap.size ≤ g) ∧ Hid (SymsAt w' g (n + 1) (consF name nm) (consF num rv)) ∧ Hid (Below w.heap.size w w') := by
  have hB : Below w.heap.size w (w.alloc (.cells #[.string name, .string num] 48)).drew := ((Below.refl _ _).alloc (Nat.le_refl _) _).drew
  have hv : w.heap.size < (w.alloc (.cells #[.string name, .string num] 48)).drew.heap.size := by
    show w.heap.size < (w.alloc _).heap.size
    simp
  have hc : ∀ j, (w.alloc (.cells #[.string name, .string num] 48)).drew.cell? ⟨w.heap.size, j, none⟩ = (#[.string name, .string num] : Array Value)[j]? := fun j => World.cell?_alloc_at (w := w) _ _ _ _ rfl
  by_cases h0 : n = 0
  · subst h0
    refine (insert_none x w.heap.size nm rv name num _ hv (hc 0) (hc 1)).mono ?_
    rintro e w' ⟨g, cap, rfl, h1, h2, h3⟩
    exact ⟨g, cap, rfl, Nat.le_trans hB.size h1, h2, hB.trans (h3.mono hB.size)⟩
  · obtain ⟨rfl, hb, hs⟩ := hx (by omega)
    refine (insert_some b n w.heap.size nm rv name num _ hn (by omega) (Nat.lt_of_lt_of_le hb hB.size) hv (World.rowIs.alloc hs _) (hc 0) (hc 1)).mono ?_
    rintro e w' ⟨g, cap, rfl, h1, h2, h3⟩
    exact ⟨g, cap, rfl, Nat.le_trans hB.size h1, h2, hB.trans (h3.mono hB.size)⟩

set_option maxHeartbeats 1000000 in
/-- the name is not there: it comes first -/
theorem set_miss (F : Nat) (x : Option Addr) (b n : Nat) (nm rv : Nat → ByteArray) (name num : ByteArray) (w : World) (hn : n ≤ 1024) (miss : ∀ i, i < n → hit nm name i = false)
    (hF : F < w.heap.size) (hcF : w.cell? ⟨F, 3, none⟩ = some (.slice x n n)) (hfF : w.frozen? ⟨F, 3, none⟩ = false) (hx : 0 < n → x = some ⟨b, 0, none⟩ ∧ b < w.heap.size ∧ w.rowIs b 48 (n * 2) (pairF nm rv)) :
    Calls Yba.prog 14 #[.pointer (some ⟨F, 0, none⟩), .string name, .string num] w
      fun e w' => e = .returned (.tuple #[]) ∧ ∃ g cap : Nat, w'.cell? ⟨F, 3, none⟩ = some (.slice (some ⟨g, 0, none⟩) (n + 1) cap) ∧ SymsAt w' g (n + 1) (consF name nm) (consF num rv) ∧ (∀ B, B ≤ F → Below B w w') := by
  have HI := (show Hid _ from index_miss x b n n nm rv name w.heap.size (w.alloc (.cells #[.string name] 9)) hn miss (by simp) (by simp) (fun h => ⟨(hx h).1, by have := (hx h).2.1; simp; omega, World.rowIs.alloc (hx h).2.2 _⟩))
  have HB0 : Hid (Below w.heap.size w (w.alloc (.cells #[.string name] 9))) := (Below.refl _ _).alloc (Nat.le_refl _) _
  have HX : Hid (0 < n → x = some ⟨b, 0, none⟩ ∧ b < w.heap.size ∧ w.rowIs b 48 (n * 2) (pairF nm rv)) := hx
  clear miss hx
  go_enter Yba.func14, Yba.ntmps14
  go_wp2_with fail
  refine Calls.mono HI.out ?_
  rintro e w1 ⟨rfl, hb1⟩
  have HB1 : Hid (Below w.heap.size w w1) := HB0.out.trans (hb1.mono (by simp))
  have cF : w1.cell? ⟨F, 3, none⟩ = some (.slice x n n) := (HB1.out.cell hF).trans hcF
  have fF : w1.frozen? ⟨F, 3, none⟩ = false := (HB1.out.frozen hF).trans hfF
  have cN : w1.cell? ⟨w.heap.size, 0, none⟩ = some (.string name) := (hb1.cell (by simp)).trans (by simp)
  have hsz : w.heap.size < w1.heap.size := by have := hb1.size; simp at this; omega
  have hF1 : F < w1.heap.size := by omega
  have HIn := (show Hid _ from insert_new x b n nm rv name num w1 hn (fun h => ⟨(HX.out h).1, by have := (HX.out h).2.1; omega, World.rowIs.of_block (HX.out h).2.2 (HB1.out.block b (HX.out h).2.1)⟩))
  clear hb1 HI HB0 hcF hfF
  go_wp2
  go_region_with (go_at_call 23; refine Calls.mono HIn.out ?_; rintro e w2 ⟨g, cap, rfl, Hg, HS, HB⟩; have cF2 : w2.cell? ⟨F, 3, none⟩ = some (.slice x n n) := (HB.out.cell hF1).trans cF; have fF2 : w2.frozen? ⟨F, 3, none⟩ = false := (HB.out.frozen hF1).trans fF)
  all_goals
    go_wp2
    have hg : w1.heap.size ≤ g := Hg.out
    refine bodyPost_ret (results_none rfl _ _ _) rfl ?_
    refine ⟨rfl, g, cap, World.cell?_setCell_same _ _ _ cF2, fun i hi => ?_, fun B hB => ?_⟩
    · have h := HS.out i hi
      exact ⟨(World.cell?_setCell_far _ _ _ _ (by simp; omega)).trans h.1, (World.cell?_setCell_far _ _ _ _ (by simp; omega)).trans h.2⟩
    · exact ((HB1.out.mono (by omega)).trans (HB.out.mono (by omega))).setCell hB _

end Go.Proofs.Ybulkkyu.BSym
