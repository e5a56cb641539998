/- LawS0579BModel, LawS0579BLookup: zzs0579bname (12) and zzs0579bbuild (13). -/
import Derived.Test.YbulkkyuRows
import Derived.WalkKit
import Derived.WalkSpells
import Derived.Deep.OwnRows
import Derived.Deep.QuietTactic
import Derived.BigQuiet
import Derived.BigGuardPart
namespace Go.Proofs.Ybulkkyu.BSym
open Go.RowKit

/-- a row of symbols, from off on -/
def Syms (w : World) (b off n : Nat) (nm rv : Nat → ByteArray) : Prop :=
  ∀ i, i < n → w.cell? ⟨b, off + i * 2, none⟩ = some (.string (nm i)) ∧ w.cell? ⟨b, off + i * 2 + 1, none⟩ = some (.string (rv i))

theorem lt_of_cell {w : World} {b o : Nat} {v : Value} (h : w.cell? ⟨b, o, none⟩ = some v) : b < w.heap.size := by
  by_cases hb : b < w.heap.size
  · exact hb
  · have : w.heap[b]? = none := Array.getElem?_eq_none (by omega)
    simp [World.cell?, this] at h

theorem info48 : (Yba.prog.info? 48).map (fun i => (i.zero, i.size, i.bytes)) = some (some (.agg #[.string ⟨#[]⟩, .string ⟨#[]⟩]), 2, 32) := by kernel_rfl
theorem info47 : (Yba.prog.info? 47).map (fun i => (i.zero, i.size, i.bytes)) = some (some (.agg #[.string ⟨#[]⟩, .string ⟨#[]⟩]), 2, 32) := by kernel_rfl

theorem name_any (a : Option Addr) (b off n c : Nat) (nm rv : Nat → ByteArray) (pick : Int) (name : ByteArray) (w : World) (hn : n ≤ 1024) (hp : 0 ≤ pick ∧ pick ≤ 255) (ha : 0 < n → a = some ⟨b, off, none⟩) (hs : Syms w b off n nm rv) :
    Calls Yba.prog 12 #[.slice a n c, .int .u8 pick, .string name] w fun e w' => ∃ s : ByteArray, e = .returned (.string s) ∧ w' = w := by
  obtain ⟨p1, p2⟩ := hp
  by_cases h0 : n = 0
  · subst h0
    clear ha hs
    go_enter Yba.func12, Yba.ntmps12
    go_wp2
    go_ret
    exact ⟨_, rfl, rfl⟩
  · have hn0 : (0 : Int) < (n : Int) := by omega
    have ha' := ha (by omega)
    subst ha'
    by_cases h1 : pick % 2 = 0
    · obtain ⟨k, hk⟩ : ∃ k : Nat, pick / 2 % (n : Int) = k := ⟨(pick / 2 % (n : Int)).toNat, by have := Int.emod_nonneg (pick / 2) (show (n : Int) ≠ 0 by omega); omega⟩
      have hkn : k < n := by have := Int.emod_lt_of_pos (pick / 2) hn0; omega
      have c0 := (hs k hkn).1
      have e1 : (pick % 2 == 0) = true := by simpa using h1
      have hki : (k : Int) < (n : Int) := by omega
      clear h1 ha hs
      go_enter Yba.func12, Yba.ntmps12
      go_wp2
      all_goals (go_ret; exact ⟨_, rfl, rfl⟩)
    · have e1 : (pick % 2 == 0) = false := by simpa using h1
      clear h1 ha hs
      go_enter Yba.func12, Yba.ntmps12
      go_wp2
      all_goals (go_ret; exact ⟨_, rfl, rfl⟩)

/-- the cells of a row of symbols -/
def pairF (nm rv : Nat → ByteArray) (j : Nat) : Value := if j % 2 = 0 then .string (nm (j / 2)) else .string (rv (j / 2))
theorem pair_even (nm rv : Nat → ByteArray) (i : Nat) : pairF nm rv (i * 2) = .string (nm i) := by
  unfold pairF
  rw [if_pos (by omega), show i * 2 / 2 = i by omega]
theorem pair_odd (nm rv : Nat → ByteArray) (i : Nat) : pairF nm rv (i * 2 + 1) = .string (rv i) := by
  unfold pairF
  rw [if_neg (by omega), show (i * 2 + 1) / 2 = i by omega]

def zz : Array Value := #[.string ⟨#[]⟩, .string ⟨#[]⟩]
theorem make_syms (n : Nat) (hn : n ≤ 1025) (wx : World) : (Instr.makeSlice 34 (.int .i64 (n : Int)) (.int .i64 (n : Int))).run Yba.prog wx = .ok (.slice (some ⟨wx.heap.size, 0, none⟩) n n) (wx.alloc (.cells (madeCells zz (n * 2)) 48)) := by
  obtain ⟨i, hi, hz0, hz1, hz2⟩ := info_parts info48
  have hr := run_make (P := Yba.prog) wx 34 48 i _ Yba.underlying34 hi hz0 .i64 .i64 n n (by omega) (Int.le_refl _) (by rw [hz2]; omega) (by omega)
  rw [hz1] at hr
  simp only [Int.toNat_natCast] at hr
  exact hr

theorem build_nil (w : World) : Calls Yba.prog 13 #[.slice none 0 0] w fun e w' => e = .returned (.slice none 0 0) ∧ w' = w := by
  have he := fun wx => Lib.run_eql_slice_nil (P := Yba.prog) wx 31 47 none 0 0 0 0 Yba.underlying31
  go_enter Yba.func13, Yba.ntmps13
  go_wp2
  go_ret
  exact ⟨rfl, rfl⟩

theorem row_start (w : World) (n : Nat) : (w.alloc (.cells (madeCells zz (n * 2)) 48)).rowIs w.heap.size 48 (n * 2) (fun _ => .string ⟨#[]⟩) := by
  refine ⟨_, Deep.blk_alloc_new _ _, size_madeCells _ _, fun i hi => ?_⟩
  simp only [madeCells]
  rw [Array.getElem?_map, Array.getElem?_range, if_pos hi]
  simp only [Option.map_some]
  rcases (show i % 2 = 0 ∨ i % 2 = 1 by omega) with h | h
  · show some (zz[i % 2]!) = _
    rw [h]; rfl
  · show some (zz[i % 2]!) = _
    rw [h]; rfl

/-- two stores fill one more symbol -/
theorem row_fill {wr : World} {g n k : Nat} {nm rv : Nat → ByteArray} (h : wr.rowIs g 48 (n * 2) (fun j => if j < k * 2 then pairF nm rv j else .string ⟨#[]⟩)) :
    ((wr.setCell ⟨g, k * 2, none⟩ (.string (nm k))).setCell ⟨g, k * 2 + 1, none⟩ (.string (rv k))).rowIs g 48 (n * 2) (fun j => if j < (k + 1) * 2 then pairF nm rv j else .string ⟨#[]⟩) := by
  refine ((h.set (k * 2) _).set (k * 2 + 1) _).congr (fun j hj => ?_)
  by_cases e1 : j = k * 2 + 1
  · subst e1
    rw [if_pos rfl, if_pos (by omega), pair_odd]
  · rw [if_neg e1]
    by_cases e2 : j = k * 2
    · subst e2
      rw [if_pos rfl, if_pos (by omega), pair_even]
    · rw [if_neg e2]
      by_cases e3 : j < k * 2
      · rw [if_pos e3, if_pos (by omega)]
      · rw [if_neg e3, if_neg (by omega)]

set_option maxHeartbeats 400000 in
theorem build_any (x : Addr) (b off n c : Nat) (nm rv : Nat → ByteArray) (w : World) (hn : n ≤ 1024) (hb : 0 < n → b < w.heap.size) (ha : 0 < n → x = ⟨b, off, none⟩) (hs : Syms w b off n nm rv) :
    Calls Yba.prog 13 #[.slice (some x) n c] w fun e w' => e = .returned (.slice (some ⟨w.heap.size, 0, none⟩) n n) ∧ w'.rowIs w.heap.size 48 (n * 2) (pairF nm rv) ∧ Below w.heap.size w w' ∧ w'.heap.size = w.heap.size + 1 := by
  have he := fun wx => Lib.run_eql_slice_nil (P := Yba.prog) wx 31 47 (some x) n c 0 0 Yba.underlying31
  have hmk := make_syms n (by omega)
  go_enter Yba.func13, Yba.ntmps13
  go_wp2
  go_loopw [4] (fun i wr => ∃ k : Nat, k ≤ n ∧ i = .int .i64 k ∧ wr.rowIs w.heap.size 48 (n * 2) (fun j => if j < k * 2 then pairF nm rv j else .string ⟨#[]⟩) ∧ Below w.heap.size w wr ∧ wr.heap.size = w.heap.size + 1) (fun i _ => n - (intOf i).toNat)
  case atStart => exact ⟨0, Nat.zero_le _, rfl, (row_start w n).congr (fun j _ => by simp), (Below.refl _ _).alloc (Nat.le_refl _) _, by simp⟩
  case round =>
    obtain ⟨k, hk, rfl, hrow, hbel, hsz⟩ := hrel
    by_cases hlt : k < n
    · have hx := ha (by omega)
      have hb' := hb (by omega)
      subst hx
      have c0 : wr.cell? ⟨b, off + k * 2, none⟩ = some (.string (nm k)) := (hbel.cell hb').trans (hs k hlt).1
      have c1 : wr.cell? ⟨b, off + k * 2 + 1, none⟩ = some (.string (rv k)) := (hbel.cell hb').trans (hs k hlt).2
      obtain ⟨v0, d0⟩ : ∃ v, wr.cell? ⟨w.heap.size, k * 2, none⟩ = some v := ⟨_, hrow.cell (by omega)⟩
      obtain ⟨v1, d1⟩ : ∃ v, wr.cell? ⟨w.heap.size, k * 2 + 1, none⟩ = some v := ⟨_, hrow.cell (by omega)⟩
      have f0 := hrow.frozen (k * 2)
      have f1 := hrow.frozen (k * 2 + 1)
      have hki : (k : Int) < (n : Int) := by omega
      have HR := (show Hid _ from row_fill hrow)
      have HB : Hid (Below w.heap.size w wr) := hbel
      clear hrow hbel he hmk hs ha hb
      go_wp2
      go_region
      go_wp2
      go_roundw
      case rel => exact ⟨k + 1, by omega, by go_num, HR.out, ((HB.out.setCell (Nat.le_refl _) _).setCell (Nat.le_refl _) _).drew, by simpa using hsz⟩
      case measure => simp [intOf]; omega
    · have HK : Hid (k = n) := by show k = n; omega
      have HR := (show Hid _ from hrow)
      clear hrow
      go_wp2
      go_ret
      exact ⟨rfl, World.rowIs.congr HR.out (fun j hj => by rw [if_pos (by rw [HK.out]; exact hj)]), hbel, hsz⟩

end Go.Proofs.Ybulkkyu.BSym
