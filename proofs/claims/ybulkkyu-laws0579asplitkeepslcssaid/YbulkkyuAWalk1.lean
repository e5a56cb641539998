/- LawS0579ASplitKeepsLCS: the walks of zzs0579asmall (8), newMarks (18) and the closure 'at' of middle (19). -/
import Derived.Test.YbulkkyuRows
import Derived.Test.YbulkkyuMyers
import Derived.WalkKit
import Derived.WalkSpells
import Derived.Deep.OwnRows
import Derived.Deep.QuietTactic
import Derived.BigQuiet
import Derived.BigGuardPart
namespace Go.Proofs.Ybulkkyu.ASplit
open Go.RowKit Lcs

theorem info5 : (Yba.prog.info? 5).map (fun i => (i.zero, i.size, i.bytes)) = some (some (.int .u8 0), 1, 1) := by kernel_rfl
theorem info3 : (Yba.prog.info? 3).map (fun i => (i.zero, i.size, i.bytes)) = some (some (.int .i64 0), 1, 8) := by kernel_rfl

theorem info91 : (Yba.prog.info? 91).map (fun i => (i.zero, i.size, i.bytes)) = some (some (.int .u64 0), 1, 8) := by kernel_rfl

set_option maxHeartbeats 400000 in
theorem small_any (b off n cap : Nat) (z : Nat → Int) (hn : n ≤ 300) (w : World) (hb : b < w.heap.size) (hz : ∀ i, i < n → w.cell? ⟨b, off + i, none⟩ = some (.int .u8 (z i))) (hzb : ∀ i, i < n → 0 ≤ z i ∧ z i ≤ 255) :
    Calls Yba.prog 8 #[.slice (some ⟨b, off, none⟩) n cap] w fun e w' => e = .returned (.slice (some ⟨w.heap.size, 0, none⟩) n n) ∧ w'.rowIs w.heap.size 5 n (fun i => .int .u8 (z i % 3)) ∧ Below w.heap.size w w' ∧ w'.heap.size = w.heap.size + 1 := by
  have hmk := fun wx => run_make_row' (P := Yba.prog) 22 5 (.int .u8 0) 1 Yba.underlying22 info5 rfl .i64 .i64 n (by omega) (by omega) wx
  go_enter Yba.func8, Yba.ntmps8
  go_wp2
  go_loopw [4] (fun i wr => ∃ k : Nat, k ≤ n ∧ i = .int .i64 k ∧ wr.rowIs w.heap.size 5 n (fun j => .int .u8 (if j < k then z j % 3 else 0)) ∧ Below w.heap.size w wr ∧ wr.heap.size = w.heap.size + 1) (fun i _ => n - (intOf i).toNat)
  case atStart => exact ⟨0, Nat.zero_le _, rfl, (World.rowIs_made w _ n 5).congr (fun i _ => by simp), (Below.refl _ _).alloc (Nat.le_refl _) _, by simp⟩
  case round =>
    obtain ⟨k, hk, rfl, hrow, hbel, hsz⟩ := hrel
    by_cases hlt : k < n
    · have hc : wr.cell? ⟨b, off + k, none⟩ = some (.int .u8 (z k)) := (hbel.cell hb).trans (hz k hlt)
      have hd := hrow.cell hlt
      have hf := hrow.frozen k
      have h1 := (hzb k hlt).1
      have h2 := (hzb k hlt).2
      have hset := hrow.set k (.int .u8 (z k % 3))
      have HS : Hid ((wr.setCell ⟨w.heap.size, k, none⟩ (.int .u8 (z k % 3))).rowIs w.heap.size 5 n (fun j => .int .u8 (if j < k + 1 then z j % 3 else 0))) := by
        refine hset.congr (fun j hj => ?_)
        by_cases e : j = k
        · subst e; simp
        · rw [if_neg e]
          by_cases e2 : j < k
          · simp [e2, show j < k + 1 by omega]
          · simp [e2, show ¬ j < k + 1 by omega]
      have HB : Hid (Below w.heap.size w (wr.setCell ⟨w.heap.size, k, none⟩ (.int .u8 (z k % 3)))) := hbel.setCell (Nat.le_refl _) _
      clear hset hrow hbel hmk hz hzb
      go_wp2
      go_roundw
      case rel => exact ⟨k + 1, by omega, by go_num, HS.out, HB.out, by simpa using hsz⟩
      case measure => simp [intOf]; omega
    · go_wp2
      go_ret
      exact ⟨rfl, hrow.congr (fun j hj => by simp [show j < k by omega]), hbel, hsz⟩

theorem make_marks (n q : Nat) (hq : ((n : Int) + 63) / 64 = (q : Int)) (hn : n ≤ 300) (wx : World) : (Instr.makeSlice 56 (.int .i64 (((n : Int) + 63) / 64)) (.int .i64 (((n : Int) + 63) / 64))).run Yba.prog wx = .ok (.slice (some ⟨wx.heap.size, 0, none⟩) q q) (wx.alloc (.cells (madeCells #[.int .u64 0] q) 91)) := by
  rw [hq]
  exact run_make_row' (P := Yba.prog) 56 91 (.int .u64 0) 8 Yba.underlying56 info91 rfl .i64 .i64 q (by omega) (by omega) wx

/-- newMarks makes one block and hands back a slice of it -/
theorem marks_any (n : Nat) (hn : n ≤ 300) (w : World) :
    Calls Yba.prog 18 #[.int .i64 n] w fun e w' => ∃ (x : Addr) (q : Nat) (o : Obj), e = .returned (.slice (some x) q q) ∧ w' = w.alloc o := by
  obtain ⟨q, hq⟩ : ∃ q : Nat, ((n : Int) + 63) / 64 = (q : Int) := ⟨(n + 63) / 64, by omega⟩
  have hmk := make_marks n q hq hn
  clear hq
  go_enter Yba.func18, Yba.ntmps18
  go_wp2
  go_ret
  exact ⟨_, _, _, rfl, rfl⟩

theorem ret_int {k : IntKind} {a b : Int} (h : a = b) : Ending.returned (.int k a) = .returned (.int k b) := by rw [h]

set_option maxHeartbeats 400000 in
theorem at_any (bv bo bn bm off : Nat) (n m k d : Int) (V : Int → Int) (w : World)
    (ho : off ≤ 300) (hn : 0 ≤ n ∧ n ≤ 300) (hm : 0 ≤ m ∧ m ≤ 300) (hd : 0 ≤ d ∧ d ≤ off) (hk : -d ≤ k ∧ k ≤ d)
    (hV : ∀ j, -1 ≤ V j ∧ V j ≤ 300)
    (hrow : w.rowIs bv 3 (2 * off + 1) (fun j => .int .i64 (V ((j : Int) - off))))
    (hco : w.cell? ⟨bo, 0, none⟩ = some (.int .i64 off)) (hcn : w.cell? ⟨bn, 0, none⟩ = some (.int .i64 n)) (hcm : w.cell? ⟨bm, 0, none⟩ = some (.int .i64 m)) :
    Calls Yba.prog 19 #[.slice (some ⟨bv, 0, none⟩) (2 * off + 1) (2 * off + 1), .int .i64 k, .int .i64 d, .pointer (some ⟨bo, 0, none⟩), .pointer (some ⟨bn, 0, none⟩), .pointer (some ⟨bm, 0, none⟩)] w
      fun e w' => e = .returned (.int .i64 (atF n m V k d)) ∧ w' = w := by
  obtain ⟨hn1, hn2⟩ := hn
  obtain ⟨hm1, hm2⟩ := hm
  obtain ⟨hd1, hd2⟩ := hd
  obtain ⟨hk1, hk2⟩ := hk
  by_cases h0 : d = 0
  · subst h0
    go_enter Yba.func19, Yba.ntmps19
    go_wp2
    go_ret
    exact ⟨ret_int (by simp [atF]), rfl⟩
  · have hl := (hV (k - 1)).1
    have hl2 := (hV (k - 1)).2
    have hr := (hV (k + 1)).1
    have hr2 := (hV (k + 1)).2
    have cl : -d < k → w.cell? ⟨bv, ((off : Int) + k).toNat - 1, none⟩ = some (.int .i64 (V (k - 1))) := fun h => by
      rw [hrow.cell (by omega), show ((((off : Int) + k).toNat - 1 : Nat) : Int) - off = k - 1 by omega]
    have cr : k < d → w.cell? ⟨bv, ((off : Int) + k + 1).toNat, none⟩ = some (.int .i64 (V (k + 1))) := fun h => by
      rw [hrow.cell (by omega), show ((((off : Int) + k + 1).toNat : Nat) : Int) - off = k + 1 by omega]
    have e1 : (d == 0) = false := by simpa using h0
    clear hrow hV
    go_enter Yba.func19, Yba.ntmps19
    go_wp2
    all_goals
      go_ret
      exact ⟨ret_int (by simp only [atF]; repeat' split; all_goals omega), rfl⟩
end Go.Proofs.Ybulkkyu.ASplit
