/- LawS0579BLookup: Symbol (15), NameShown (16), the law's own walk (5). -/
import Derived.Test.YbulkkyuBModel
namespace Go.Proofs.Ybulkkyu.BSym
open Go.RowKit
set_option linter.unusedVariables false

set_option maxHeartbeats 400000 in
theorem symbol_hit (F g n cap k0 : Nat) (nm rv : Nat → ByteArray) (name num : ByteArray) (w : World) (hn : n ≤ 1025) (hk0 : k0 < n) (hit0 : hit nm name k0 = true) (miss : ∀ i, i < k0 → hit nm name i = false) (hnum : rv k0 = num)
    (hF : F < w.heap.size) (hg : g < w.heap.size) (hcF : w.cell? ⟨F, 3, none⟩ = some (.slice (some ⟨g, 0, none⟩) n cap)) (hs : SymsAt w g n nm rv) :
    Calls Yba.prog 15 #[.pointer (some ⟨F, 0, none⟩), .string name] w fun e w' => e = .returned (.tuple #[.string num, .bool true]) ∧ Below w.heap.size w w' := by
  have HS : Hid (SymsAt w g n nm rv) := hs
  have HH : Hid (hit nm name k0 = true) := hit0
  have HMs : Hid (∀ i, i < k0 → hit nm name i = false) := miss
  have HQ : Hid (rv k0 = num) := hnum
  clear hs hit0 miss hnum
  go_enter Yba.func15, Yba.ntmps15
  go_wp2
  go_loopw [13] (fun i wr => ∃ k : Nat, k ≤ k0 ∧ i = .int .i64 k ∧ Below w.heap.size w wr) (fun i _ => n - (intOf i).toNat)
  case atStart => exact ⟨0, Nat.zero_le _, rfl, Below.refl _ _⟩
  case round =>
    clear hcF
    obtain ⟨k, hk, rfl, hbel⟩ := hrel
    have d0 : wr.cell? ⟨g, k * 2, none⟩ = some (.string (nm k)) := (hbel.cell hg).trans (HS.out k (by omega)).1
    have d1 : wr.cell? ⟨g, k * 2 + 1, none⟩ = some (.string (rv k)) := (hbel.cell hg).trans (HS.out k (by omega)).2
    have hki : (k : Int) < (n : Int) := by omega
    have hgw : g < wr.heap.size := by have := hbel.size; omega
    have HB : Hid (Below w.heap.size w wr) := hbel
    clear hbel
    by_cases e : k = k0
    · subst e
      have hh : ((nm k).toList == name.toList) = true := HH.out
      go_wp2
      go_ret2
      exact ⟨by rw [HQ.out]; rfl, HB.out.alloc HB.out.size _⟩
    · have hh : ((nm k).toList == name.toList) = false := HMs.out k (by omega)
      go_wp2
      go_roundw
      case rel => exact ⟨k + 1, by omega, by go_num, HB.out.alloc HB.out.size _⟩
      case measure => simp [intOf]; omega

theorem shown_hit (F g n cap k0 : Nat) (nm rv : Nat → ByteArray) (name num : ByteArray) (w : World) (hn : n ≤ 1025) (hk0 : k0 < n) (hit0 : hit nm name k0 = true) (miss : ∀ i, i < k0 → hit nm name i = false) (hnum : rv k0 = num)
    (hF : F < w.heap.size) (hg : g < w.heap.size) (hcF : w.cell? ⟨F, 3, none⟩ = some (.slice (some ⟨g, 0, none⟩) n cap)) (hs : SymsAt w g n nm rv) :
    Calls Yba.prog 16 #[.pointer (some ⟨F, 0, none⟩), .string name, .string num] w fun e w' => e = .returned (.string name) ∧ Below w.heap.size w w' := by
  have HC := (show Hid _ from symbol_hit F g n cap k0 nm rv name num w hn hk0 hit0 miss hnum hF hg hcF hs)
  clear hit0 miss hnum hcF hs
  go_enter Yba.func16, Yba.ntmps16
  go_wp2_with fail
  refine Calls.mono HC.out ?_
  rintro e w1 ⟨rfl, hb⟩
  have HB : Hid (Below w.heap.size w w1) := hb
  clear hb HC
  go_wp2
  go_ret
  exact ⟨rfl, HB.out⟩

set_option maxRecDepth 10000 in
set_option maxHeartbeats 1000000 in
theorem lookup_any (x : Option Addr) (b off n c : Nat) (nm rv : Nat → ByteArray) (pick : Int) (name0 num : ByteArray) (w : World) (hn : n ≤ 1024) (hnil : x = none → n = 0 ∧ c = 0) (hx : 0 < n → x = some ⟨b, off, none⟩ ∧ b < w.heap.size) (hs : Syms w b off n nm rv) (hp : 0 ≤ pick ∧ pick ≤ 255) :
    Calls Yba.prog 5 #[.slice x n c, .int .u8 pick, .string name0, .string num] w fun e w' => e = .returned (.bool true) ∧ Below w.heap.size w w' := by
  have HN := (show Hid _ from name_any x b off n c nm rv pick name0 w hn hp (fun h => (hx h).1) hs)
  have HBd := (show Hid _ from build_all x b off n c nm rv w hn hnil hx hs)
  have hg : ¬ ((1024 : Int) < (n : Int)) := by omega
  have HO : Hid (Syms w b off n nm rv) := hs
  have HX : Hid (0 < n → x = some ⟨b, off, none⟩ ∧ b < w.heap.size) := hx
  clear hnil hp hs hx
  go_enter Yba.func5, Yba.ntmps5
  go_wp2_with fail
  refine Calls.mono HN.out ?_
  rintro e w0 ⟨name, rfl, hw0⟩
  rw [hw0]
  clear HN hw0 w0
  go_wp2_with fail
  refine Calls.mono HBd.out ?_
  rintro e w1 ⟨y, rfl, HY, HB1⟩
  clear HBd
  go_wp2_with fail
  -- whatever SetSymbol did: the first definition of the name names num
  have fin : ∀ w3 : World, (∃ g n' cap k0 : Nat, ∃ nm' rv' : Nat → ByteArray, n' ≤ 1025 ∧ k0 < n' ∧ hit nm' name k0 = true ∧ (∀ i, i < k0 → hit nm' name i = false) ∧ rv' k0 = num ∧ w1.heap.size < w3.heap.size ∧ g < w3.heap.size ∧
      w3.cell? ⟨w1.heap.size, 3, none⟩ = some (.slice (some ⟨g, 0, none⟩) n' cap) ∧ SymsAt w3 g n' nm' rv' ∧ Below w.heap.size w w3) →
      (Calls Yba.prog 15 #[.pointer (some ⟨w1.heap.size, 0, none⟩), .string name] w3 fun e w' => e = .returned (.tuple #[.string num, .bool true]) ∧ Hid (Below w.heap.size w w') ∧
        Hid (Calls Yba.prog 16 #[.pointer (some ⟨w1.heap.size, 0, none⟩), .string name, .string num] w' fun e w'' => e = .returned (.string name) ∧ Hid (Below w.heap.size w w''))) := by
    rintro w3 ⟨g, n', cap, k0, nm', rv', a1, a2, a3, a4, a5, a6, a7, a8, a9, a10⟩
    refine (symbol_hit w1.heap.size g n' cap k0 nm' rv' name num w3 a1 a2 a3 a4 a5 a6 a7 a8 a9).mono ?_
    rintro e w4 ⟨rfl, hb4⟩
    have hb : Below w.heap.size w w4 := a10.trans (hb4.mono a10.size)
    refine ⟨rfl, hb, ?_⟩
    have hsz := hb4.size
    refine (shown_hit w1.heap.size g n' cap k0 nm' rv' name num w4 a1 a2 a3 a4 a5 (by omega) (by omega) ((hb4.cell a6).trans a8) (fun i hi => ⟨(hb4.cell a7).trans (a9 i hi).1, (hb4.cell a7).trans (a9 i hi).2⟩)).mono ?_
    rintro e w5 ⟨rfl, hb5⟩
    exact ⟨rfl, hb.trans (hb5.mono hb.size)⟩
  have HFin := (show Hid _ from fin)
  clear fin
  rcases first_cases nm name n with ⟨k0, hk0, hhit, hmiss⟩ | hmiss
  · obtain ⟨rfl, hlt1, hrow⟩ := HY.out (by omega)
    refine Calls.mono (set_hit w1.heap.size w.heap.size n k0 nm rv name num _ hn hk0 hhit hmiss (by simp) (by simp; omega) (by omega) (by simp) (hrow.alloc _)) ?_
    rintro e w3 ⟨rfl, h1, h2, h3⟩
    have hb3 : Below w.heap.size w w3 := (HB1.out.alloc HB1.out.size _).trans (h3 _ (Nat.le_refl _))
    have hs3 : w1.heap.size < w3.heap.size := by have := (h3 0 (Nat.zero_le _)).size; simp at this; omega
    have HS := (show Hid _ from HFin.out w3 ⟨w.heap.size, n, n, k0, nm, _, by omega, hk0, hhit, hmiss, by simp, hs3, by omega, h1, symsAt_of_row h2, hb3⟩)
    clear h1 h2 h3 hb3 hs3 hrow HY hhit hmiss HFin
    go_wp2_with fail
    refine Calls.mono HS.out ?_
    rintro e w4 ⟨rfl, HB4, HS4⟩
    clear HS
    go_wp2_with fail
    refine Calls.mono HS4.out ?_
    rintro e w5 ⟨rfl, HB5⟩
    clear HS4
    go_wp2
    go_ret
    exact ⟨rfl, HB5.out⟩
  · refine Calls.mono (set_miss w1.heap.size y w.heap.size n nm rv name num _ hn hmiss (by simp) (by simp) (by simp) (fun h => ⟨(HY.out h).1, by have := (HY.out h).2.1; simp; omega, World.rowIs.alloc (HY.out h).2.2 _⟩)) ?_
    rintro e w3 ⟨rfl, g, cap, h1, h2, h3⟩
    have hb3 : Below w.heap.size w w3 := (HB1.out.alloc HB1.out.size _).trans (h3 _ HB1.out.size)
    have hs3 : w1.heap.size < w3.heap.size := by have := (h3 0 (Nat.zero_le _)).size; simp at this; omega
    have hg3 : g < w3.heap.size := block_lt_of_cell (h2 0 (by omega)).1
    have HS := (show Hid _ from HFin.out w3 ⟨g, n + 1, cap, 0, _, _, by omega, by omega, by simp [hit, consF], fun i hi => absurd hi (by omega), rfl, hs3, hg3, h1, h2, hb3⟩)
    clear h1 h2 h3 hb3 hs3 hg3 HY hmiss HFin
    go_wp2_with fail
    refine Calls.mono HS.out ?_
    rintro e w4 ⟨rfl, HB4, HS4⟩
    clear HS
    go_wp2_with fail
    refine Calls.mono HS4.out ?_
    rintro e w5 ⟨rfl, HB5⟩
    clear HS4
    go_wp2
    go_ret
    exact ⟨rfl, HB5.out⟩

end Go.Proofs.Ybulkkyu.BSym
