/- LawS0579BModel, LawS0579BLookup: the closure of SetSymbol (22), slices.IndexFunc (21). -/
import Derived.Test.YbulkkyuBWalk1
namespace Go.Proofs.Ybulkkyu.BSym
open Go.RowKit

def hit (nm : Nat → ByteArray) (name : ByteArray) (i : Nat) : Bool := (nm i).toList == name.toList

theorem same_any (s r name : ByteArray) (bn : Nat) (w : World) (hbn : bn < w.heap.size) (hc : w.cell? ⟨bn, 0, none⟩ = some (.string name)) :
    Calls Yba.prog 22 #[.agg #[.string s, .string r], .pointer (some ⟨bn, 0, none⟩)] w fun e w' => e = .returned (.bool (s.toList == name.toList)) ∧ Below w.heap.size w w' := by
  go_enter Yba.func22, Yba.ntmps22
  go_wp2
  go_ret
  exact ⟨rfl, (Below.refl _ _).alloc (Nat.le_refl _) _⟩

set_option maxHeartbeats 400000 in
theorem index_hit (b n c k0 : Nat) (nm rv : Nat → ByteArray) (name : ByteArray) (bn : Nat) (w : World) (hn : n ≤ 1024) (hk0 : k0 < n) (hit0 : hit nm name k0 = true) (miss : ∀ i, i < k0 → hit nm name i = false)
    (hbn : bn < w.heap.size) (hc : w.cell? ⟨bn, 0, none⟩ = some (.string name)) (hb : b < w.heap.size) (hs : w.rowIs b 48 (n * 2) (pairF nm rv)) :
    Calls Yba.prog 21 #[.slice (some ⟨b, 0, none⟩) n c, .func (Fn.func 22) #[] #[.pointer (some ⟨bn, 0, none⟩)]] w fun e w' => e = .returned (.int .i64 k0) ∧ Below w.heap.size w w' := by
  go_enter Yba.func21, Yba.ntmps21
  go_wp2
  go_loopw [8] (fun i wr => ∃ k : Nat, k ≤ k0 ∧ i = .int .i64 k ∧ Below w.heap.size w wr) (fun i _ => n - (intOf i).toNat)
  case atStart => exact ⟨0, Nat.zero_le _, rfl, Below.refl _ _⟩
  case round =>
    obtain ⟨k, hk, rfl, hbel⟩ := hrel
    have d0 : wr.cell? ⟨b, k * 2, none⟩ = some (.string (nm k)) := by rw [hbel.cell hb, hs.cell (by omega), pair_even]
    have d1 : wr.cell? ⟨b, k * 2 + 1, none⟩ = some (.string (rv k)) := by rw [hbel.cell hb, hs.cell (by omega), pair_odd]
    have hki : (k : Int) < (n : Int) := by omega
    have hsz := hbel.size
    have HS := (show Hid _ from same_any (nm k) (rv k) name bn wr (by omega) ((hbel.cell hbn).trans hc))
    have HB : Hid (Below w.heap.size w wr) := hbel
    clear hbel hs hc
    by_cases e : k = k0
    · subst e
      have hh : ((nm k).toList == name.toList) = true := hit0
      clear hit0 miss
      go_wp2_with fail
      refine Calls.mono HS.out ?_
      rintro e w' ⟨rfl, hb'⟩
      have HB' : Hid (Below w.heap.size w w') := HB.out.trans (hb'.mono hsz)
      clear hb'
      go_wp2
      go_ret
      exact ⟨rfl, HB'.out⟩
    · have hh : ((nm k).toList == name.toList) = false := miss k (by omega)
      clear hit0 miss
      go_wp2_with fail
      refine Calls.mono HS.out ?_
      rintro e w' ⟨rfl, hb'⟩
      have HB' : Hid (Below w.heap.size w w') := HB.out.trans (hb'.mono hsz)
      clear hb'
      go_wp2
      go_roundw
      case rel => exact ⟨k + 1, by omega, by go_num, HB'.out⟩
      case measure => simp [intOf]; omega

set_option maxHeartbeats 400000 in
theorem index_miss (x : Option Addr) (b n c : Nat) (nm rv : Nat → ByteArray) (name : ByteArray) (bn : Nat) (w : World) (hn : n ≤ 1024) (miss : ∀ i, i < n → hit nm name i = false)
    (hbn : bn < w.heap.size) (hc : w.cell? ⟨bn, 0, none⟩ = some (.string name)) (hx : 0 < n → x = some ⟨b, 0, none⟩ ∧ b < w.heap.size ∧ w.rowIs b 48 (n * 2) (pairF nm rv)) :
    Calls Yba.prog 21 #[.slice x n c, .func (Fn.func 22) #[] #[.pointer (some ⟨bn, 0, none⟩)]] w fun e w' => e = .returned (.int .i64 (-1)) ∧ Below w.heap.size w w' := by
  go_enter Yba.func21, Yba.ntmps21
  go_wp2
  go_loopw [8] (fun i wr => ∃ k : Nat, k ≤ n ∧ i = .int .i64 k ∧ Below w.heap.size w wr) (fun i _ => n - (intOf i).toNat)
  case atStart => exact ⟨0, Nat.zero_le _, rfl, Below.refl _ _⟩
  case round =>
    obtain ⟨k, hk, rfl, hbel⟩ := hrel
    by_cases hlt : k < n
    · obtain ⟨hxx, hb, hs⟩ := hx (by omega)
      subst hxx
      have d0 : wr.cell? ⟨b, k * 2, none⟩ = some (.string (nm k)) := by rw [hbel.cell hb, hs.cell (by omega), pair_even]
      have d1 : wr.cell? ⟨b, k * 2 + 1, none⟩ = some (.string (rv k)) := by rw [hbel.cell hb, hs.cell (by omega), pair_odd]
      have hki : (k : Int) < (n : Int) := by omega
      have hsz := hbel.size
      have HS := (show Hid _ from same_any (nm k) (rv k) name bn wr (by omega) ((hbel.cell hbn).trans hc))
      have HB : Hid (Below w.heap.size w wr) := hbel
      have hh : ((nm k).toList == name.toList) = false := miss k hlt
      clear hbel hs hc miss hx
      go_wp2_with fail
      refine Calls.mono HS.out ?_
      rintro e w' ⟨rfl, hb'⟩
      have HB' : Hid (Below w.heap.size w w') := HB.out.trans (hb'.mono hsz)
      clear hb'
      go_wp2
      go_roundw
      case rel => exact ⟨k + 1, by omega, by go_num, HB'.out⟩
      case measure => simp [intOf]; omega
    · clear hx hc miss
      go_wp2
      go_ret
      exact ⟨rfl, hbel⟩

end Go.Proofs.Ybulkkyu.BSym
