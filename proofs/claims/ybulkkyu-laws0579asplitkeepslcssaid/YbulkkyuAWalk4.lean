/- LawS0579ASplitKeepsLCS: the walk of newSearch (9). -/
import Derived.Test.YbulkkyuAWalk1
import Derived.Deep.RegionWith
import Derived.Deep.DrawnRows
namespace Go.Proofs.Ybulkkyu.ASplit
open Go.RowKit Lcs
attribute [local go_sem ↓] Go.wp_at_zero Go.wp_at_succ

theorem make_off (off q : Nat) (hq : 2 * (off : Int) + 1 = (q : Int)) (ho : off ≤ 301) (wx : World) : (Instr.makeSlice 58 (.int .i64 (2 * (off : Int) + 1)) (.int .i64 (2 * (off : Int) + 1))).run Yba.prog wx = .ok (.slice (some ⟨wx.heap.size, 0, none⟩) q q) (wx.alloc (.cells (madeCells #[.int .i64 0] q) 3)) := by
  rw [hq]
  exact run_make_row' (P := Yba.prog) 58 3 (.int .i64 0) 8 Yba.underlying58 info3 rfl .i64 .i64 q (by omega) (by omega) wx

/-- what newSearch leaves -/
structure Made (ba bb' la lb off : Nat) (w w' : World) (bs bf bb : Nat) : Prop where
  c0 : w'.cell? ⟨bs, 0, none⟩ = some (.slice (some ⟨ba, 0, none⟩) la la)
  c1 : w'.cell? ⟨bs, 1, none⟩ = some (.slice (some ⟨bb', 0, none⟩) lb lb)
  c4 : w'.cell? ⟨bs, 4, none⟩ = some (.slice (some ⟨bf, 0, none⟩) (2 * off + 1) (2 * off + 1))
  c5 : w'.cell? ⟨bs, 5, none⟩ = some (.slice (some ⟨bb, 0, none⟩) (2 * off + 1) (2 * off + 1))
  c6 : w'.cell? ⟨bs, 6, none⟩ = some (.int .i64 off)
  rV : w'.rowIs bf 3 (2 * off + 1) (fun _ => .int .i64 0)
  rU : w'.rowIs bb 3 (2 * off + 1) (fun _ => .int .i64 0)
  n1 : bf ≠ bb
  n2 : bs ≠ bf
  n3 : bs ≠ bb
  z1 : w.heap.size ≤ bs
  z4 : w.heap.size ≤ bf
  z5 : w.heap.size ≤ bb
  l1 : bs < w'.heap.size
  bel : Below w.heap.size w w'

theorem made_of {ba bb' la lb off q : Nat} {w W : World} {bs bf bb : Nat} {v2 v3 : Value} (hq : q = 2 * off + 1) (hbs : bs = W.heap.size) (hbel : Below w.heap.size w W) (rV : W.rowIs bf 3 q (fun _ => .int .i64 0)) (rU : W.rowIs bb 3 q (fun _ => .int .i64 0))
    (n1 : bf ≠ bb) (z4 : w.heap.size ≤ bf) (z5 : w.heap.size ≤ bb) :
    Made ba bb' la lb off w (W.alloc (.cells #[.slice (some ⟨ba, 0, none⟩) la la, .slice (some ⟨bb', 0, none⟩) lb lb, v2, v3, .slice (some ⟨bf, 0, none⟩) q q, .slice (some ⟨bb, 0, none⟩) q q, .int .i64 off] 60)).drew bs bf bb := by
  subst hq
  subst hbs
  have k1 := rV.lt
  have k2 := rU.lt
  have k3 := hbel.size
  refine ⟨?_, ?_, ?_, ?_, ?_, rV.alloc _, rU.alloc _, n1, by omega, by omega, k3, z4, z5, ?_, (hbel.alloc k3 _).drew⟩
  · exact (World.cell?_alloc_at _ _ _ _ rfl).trans rfl
  · exact (World.cell?_alloc_at _ _ _ _ rfl).trans rfl
  · exact (World.cell?_alloc_at _ _ _ _ rfl).trans rfl
  · exact (World.cell?_alloc_at _ _ _ _ rfl).trans rfl
  · exact (World.cell?_alloc_at _ _ _ _ rfl).trans rfl
  · show W.heap.size < (W.alloc _).heap.size
    simp

theorem row_made (W : World) (q b : Nat) (h : b = W.heap.size) : (W.alloc (.cells (madeCells #[.int .i64 0] q) 3)).rowIs b 3 q (fun _ => .int .i64 0) := by
  subst h
  exact World.rowIs_made W _ q 3

set_option maxRecDepth 10000 in
set_option maxHeartbeats 2000000 in
theorem search_any (ba bb' la lb : Nat) (w : World) (hla : la ≤ 300) (hlb : lb ≤ 300) :
    Calls Yba.prog 9 #[.slice (some ⟨ba, 0, none⟩) la la, .slice (some ⟨bb', 0, none⟩) lb lb] w fun e w' => ∃ bs bf bb : Nat, e = .returned (.pointer (some ⟨bs, 0, none⟩)) ∧ Made ba bb' la lb ((la + lb + 1) / 2) w w' bs bf bb := by
  obtain ⟨off, ho0⟩ : ∃ off : Nat, (la + lb + 1) / 2 = off := ⟨_, rfl⟩
  rw [ho0]
  have hoff : ((la : Int) + lb + 1) / 2 = off := by omega
  clear ho0
  have ho : off ≤ 301 := by omega
  go_enter Yba.func9, Yba.ntmps9
  go_wp2
  obtain ⟨q, hq⟩ : ∃ q : Nat, q = 2 * off + 1 := ⟨_, rfl⟩
  have hmk := make_off off q (by omega) ho
  have hw1 : IntKind.i64.wrap (2 * (off : Int)) = 2 * (off : Int) := IntWalk.i64_in _ (by omega)
  have hw2 : IntKind.i64.wrap (2 * (off : Int) + 1) = 2 * (off : Int) + 1 := IntWalk.i64_in _ (by omega)
  have HQ := (show Hid _ from hq)
  have HO := (show Hid _ from hoff)
  clear hoff hq
  go_region_with (first | (go_at_call_of 18 (la); refine (marks_any la hla _).mono ?_; rintro e w' ⟨x, l, o, rfl, rfl⟩) | (go_at_call_of 18 (lb); refine (marks_any lb hlb _).mono ?_; rintro e w' ⟨x, l, o, rfl, rfl⟩))
  all_goals go_wp2
  all_goals go_ret
  all_goals exact ⟨_, _, _, rfl, made_of HQ.out (by simp) (by repeat (first | exact Below.refl _ _ | refine Below.alloc ?_ (by simp <;> omega) _)) (by repeat (first | (refine row_made _ _ _ ?_; simp; done) | refine World.rowIs.alloc ?_ _)) (by repeat (first | (refine row_made _ _ _ ?_; simp; done) | refine World.rowIs.alloc ?_ _)) (by omega) (by omega) (by omega)⟩
end Go.Proofs.Ybulkkyu.ASplit
