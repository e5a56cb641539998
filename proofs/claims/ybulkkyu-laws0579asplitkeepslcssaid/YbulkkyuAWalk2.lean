/- LawS0579ASplitKeepsLCS: the walk of zzs0579alcs (11). -/
import Derived.Test.YbulkkyuAWalk1
import Derived.Test.YbulkkyuLcs
namespace Go.Proofs.Ybulkkyu.ASplit
open Go.RowKit Lcs

def eqF (F G : Nat → Int) : Nat → Nat → Bool := fun p q => F p == G q

theorem make_row58 (n q : Nat) (hq : (n : Int) + 1 = (q : Int)) (hn : n ≤ 300) (wx : World) : (Instr.makeSlice 58 (.int .i64 ((n : Int) + 1)) (.int .i64 ((n : Int) + 1))).run Yba.prog wx = .ok (.slice (some ⟨wx.heap.size, 0, none⟩) q q) (wx.alloc (.cells (madeCells #[.int .i64 0] q) 3)) := by
  rw [hq]
  exact run_make_row' (P := Yba.prog) 58 3 (.int .i64 0) 8 Yba.underlying58 info3 rfl .i64 .i64 q (by omega) (by omega) wx

theorem upd_row {wr : World} {b n q : Nat} {g : Nat → Int} (h : wr.rowIs b 3 n (fun j => .int .i64 (g j))) (v : Int) : (wr.setCell ⟨b, q, none⟩ (.int .i64 v)).rowIs b 3 n (fun j => .int .i64 (if j = q then v else g j)) :=
  (h.set q (.int .i64 v)).congr (fun j _ => by split <;> rfl)

theorem bel_drewN {B : Nat} {w w' : World} (h : Below B w w') (n : Nat) : Below B w (w'.drewN n) := ⟨h.os, h.tape, h.output, h.size, h.block⟩

/-- what one inner round leaves -/
theorem step_row {wr : World} {bp bc m k q : Nat} {F G : Nat → Int} {g : Nat → Int} (hne : bp ≠ bc)
    (hp : wr.rowIs bp 3 (m + 1) (fun j => .int .i64 (lc (eqF F G) k j))) (hc : wr.rowIs bc 3 (m + 1) (fun j => .int .i64 (g j)))
    (hg : ∀ t, t ≤ q → g t = lc (eqF F G) (k + 1) t) (v : Int) (hv : v = lc (eqF F G) (k + 1) (q + 1)) :
    (wr.setCell ⟨bc, q + 1, none⟩ (.int .i64 v)).rowIs bp 3 (m + 1) (fun j => .int .i64 (lc (eqF F G) k j)) ∧
    ∃ g' : Nat → Int, (wr.setCell ⟨bc, q + 1, none⟩ (.int .i64 v)).rowIs bc 3 (m + 1) (fun j => .int .i64 (g' j)) ∧ ∀ t, t ≤ q + 1 → g' t = lc (eqF F G) (k + 1) t := by
  refine ⟨hp.setOther hne _, _, upd_row hc v, fun t ht => ?_⟩
  by_cases e : t = q + 1
  · subst e; simp [hv]
  · rw [if_neg e]; exact hg t (by omega)

set_option maxHeartbeats 1000000 in
theorem lcs_full (ba oa n ca bb ob m cb : Nat) (F G : Nat → Int) (h0 : 0 < n) (h1 : 0 < m) (hn : n ≤ 300) (hm : m ≤ 300) (w : World) (hba : ba < w.heap.size) (hbb : bb < w.heap.size)
    (hF : ∀ i, i < n → w.cell? ⟨ba, oa + i, none⟩ = some (.int .u8 (F i))) (hG : ∀ i, i < m → w.cell? ⟨bb, ob + i, none⟩ = some (.int .u8 (G i))) :
    Calls Yba.prog 11 #[.slice (some ⟨ba, oa, none⟩) n ca, .slice (some ⟨bb, ob, none⟩) m cb] w fun e w' => e = .returned (.int .i64 (lc (eqF F G) n m)) ∧ Below w.heap.size w w' := by
  have z0 : ((n : Int) == 0) = false := by simp; omega
  have z1 : ((m : Int) == 0) = false := by simp; omega
  have hmk := make_row58 m (m + 1) (by omega) hm
  go_enter Yba.func11, Yba.ntmps11
  go_wp2
  go_loopw [5, 6, 7] (fun p c i wr => ∃ (k bp bc : Nat) (g : Nat → Int), k ≤ n ∧ i = .int .i64 k ∧ p = .slice (some ⟨bp, 0, none⟩) (m + 1) (m + 1) ∧ c = .slice (some ⟨bc, 0, none⟩) (m + 1) (m + 1) ∧ bp ≠ bc ∧ w.heap.size ≤ bp ∧ w.heap.size ≤ bc ∧
      wr.rowIs bp 3 (m + 1) (fun j => .int .i64 (lc (eqF F G) k j)) ∧ wr.rowIs bc 3 (m + 1) (fun j => .int .i64 (g j)) ∧ Below w.heap.size w wr) (fun _ _ i _ => n - (intOf i).toNat)
  case atStart =>
    refine ⟨0, w.heap.size, w.heap.size + 1, fun _ => 0, Nat.zero_le _, rfl, rfl, rfl, by omega, Nat.le_refl _, by omega, ?_, ?_, ?_⟩
    · exact ((World.rowIs_made w _ (m + 1) 3).alloc _).congr (fun j _ => by simp [lc_zero_left])
    · have := World.rowIs_made (w.alloc (.cells (madeCells #[.int .i64 0] (m + 1)) 3)) (.int .i64 0) (m + 1) 3
      simpa using this
    · exact ((Below.refl _ _).alloc (Nat.le_refl _) _).alloc (by simp) _
  case round =>
    obtain ⟨k, bp, bc, g, hk, rfl, rfl, rfl, hne, hbp, hbc, hrp, hrc, hbel⟩ := hrel
    clear hmk
    by_cases hlt : k < n
    · have hd := hrc.cell (i := 0) (by omega)
      have hf := hrc.frozen 0
      have hki : (k : Int) < (n : Int) := by omega
      have R1 : Hid ((wr.setCell ⟨bc, 0, none⟩ (.int .i64 0)).rowIs bp 3 (m + 1) (fun j => .int .i64 (lc (eqF F G) k j))) := hrp.setOther hne _
      have R2 : Hid ((wr.setCell ⟨bc, 0, none⟩ (.int .i64 0)).rowIs bc 3 (m + 1) (fun j => .int .i64 (if j = 0 then 0 else g j))) := upd_row hrc 0
      have R3 : Hid (Below w.heap.size w (wr.setCell ⟨bc, 0, none⟩ (.int .i64 0))) := hbel.setCell hbc _
      clear hrp hrc hbel
      go_wp2
      go_loopw [8] (fun j wr => ∃ (q : Nat) (g' : Nat → Int), q ≤ m ∧ j = .int .i64 q ∧ wr.rowIs bp 3 (m + 1) (fun j => .int .i64 (lc (eqF F G) k j)) ∧ wr.rowIs bc 3 (m + 1) (fun j => .int .i64 (g' j)) ∧
        (∀ t, t ≤ q → g' t = lc (eqF F G) (k + 1) t) ∧ Below w.heap.size w wr) (fun j _ => m - (intOf j).toNat)
      case atStart => exact ⟨0, _, Nat.zero_le _, rfl, R1.out, R2.out, fun t ht => by (have : t = 0 := by omega); subst this; simp [lc_zero_right], R3.out⟩
      case round =>
        obtain ⟨q, g', hq, rfl, hrp, hrc, hg, hbel⟩ := hrel
        clear hd hf R1 R2 R3
        by_cases hqm : q < m
        · have cA : wr.cell? ⟨ba, oa + k, none⟩ = some (.int .u8 (F k)) := (hbel.cell hba).trans (hF k hlt)
          have cB : wr.cell? ⟨bb, ob + q, none⟩ = some (.int .u8 (G q)) := (hbel.cell hbb).trans (hG q hqm)
          have hqi : (q : Int) < (m : Int) := by omega
          have hq0 : (q : Int) < (m : Int) + 1 := by omega
          obtain ⟨p0, hp0⟩ : ∃ x : Int, x = (lc (eqF F G) k q : Int) := ⟨_, rfl⟩
          obtain ⟨p1, hp1⟩ : ∃ x : Int, x = (lc (eqF F G) k (q + 1) : Int) := ⟨_, rfl⟩
          obtain ⟨x0, hx0⟩ : ∃ x : Int, x = (lc (eqF F G) (k + 1) q : Int) := ⟨_, rfl⟩
          have c0 : wr.cell? ⟨bp, q, none⟩ = some (.int .i64 p0) := by rw [hp0]; exact hrp.cell (by omega)
          have c1 : wr.cell? ⟨bp, q + 1, none⟩ = some (.int .i64 p1) := by rw [hp1]; exact hrp.cell (by omega)
          have c2 : wr.cell? ⟨bc, q, none⟩ = some (.int .i64 x0) := by rw [hx0, ← hg q (Nat.le_refl _)]; exact hrc.cell (by omega)
          have c3 : wr.cell? ⟨bc, q + 1, none⟩ = some (.int .i64 (g' (q + 1))) := hrc.cell (by omega)
          have f3 := hrc.frozen (q + 1)
          have b0 : 0 ≤ p0 ∧ p0 ≤ 300 := by have := lc_le_right (eqF F G) k q; omega
          have b1 : 0 ≤ p1 ∧ p1 ≤ 300 := by have := lc_le_right (eqF F G) k (q + 1); omega
          have b2 : 0 ≤ x0 ∧ x0 ≤ 300 := by have := lc_le_right (eqF F G) (k + 1) q; omega
          have hstep := lc_succ (eqF F G) k q
          by_cases he : (F k == G q) = true
          · rw [if_pos (show eqF F G k q = true from he)] at hstep
            have R := step_row hne hrp hrc hg (p0 + 1) (by omega)
            have RB := hbel
            have HR := (show Hid _ from R)
            have HB := (show Hid _ from RB)
            clear R RB hrp hrc hbel hg hp0 hp1 hx0 hstep hF hG
            obtain ⟨b01, b02⟩ := b0
            go_wp2
            go_quiet (fail)
            go_wp2
            go_roundw
            case rel =>
              obtain ⟨r1, g2, r2, r3⟩ := HR.out
              exact ⟨q + 1, g2, by omega, by go_num, r1, r2, r3, (bel_drewN HB.out _).setCell hbc _⟩
            case measure => simp [intOf]; omega
          · have he' : (F k == G q) = false := by simpa using he
            rw [if_neg (show ¬ eqF F G k q = true from he)] at hstep
            clear he
            by_cases hge : x0 ≤ p1
            · have R := step_row hne hrp hrc hg p1 (by omega)
              have RB := hbel
              have HR := (show Hid _ from R)
              have HB := (show Hid _ from RB)
              clear R RB hrp hrc hbel hg hp0 hp1 hx0 hstep hF hG
              go_wp2
              go_quiet (fail)
              go_wp2
              go_quiet (fail)
              go_wp2
              go_roundw
              case rel =>
                obtain ⟨r1, g2, r2, r3⟩ := HR.out
                exact ⟨q + 1, g2, by omega, by go_num, r1, r2, r3, (bel_drewN HB.out _).setCell hbc _⟩
              case measure => simp [intOf]; omega
            · have R := step_row hne hrp hrc hg x0 (by omega)
              have RB := hbel
              have HR := (show Hid _ from R)
              have HB := (show Hid _ from RB)
              clear R RB hrp hrc hbel hg hp0 hp1 hx0 hstep hF hG
              go_wp2
              go_quiet (fail)
              go_wp2
              go_quiet (fail)
              go_wp2
              go_roundw
              case rel =>
                obtain ⟨r1, g2, r2, r3⟩ := HR.out
                exact ⟨q + 1, g2, by omega, by go_num, r1, r2, r3, (bel_drewN HB.out _).setCell hbc _⟩
              case measure => simp [intOf]; omega
        · have hqe : q = m := by omega
          have HP : Hid (wr.rowIs bc 3 (m + 1) (fun j => .int .i64 (lc (eqF F G) (k + 1) j))) := hrc.congr (fun j hj => by rw [hg j (by omega)])
          have HQ := (show Hid _ from hrp)
          have HB := (show Hid _ from hbel)
          clear hqe hrp hrc hg hbel
          go_wp2
          go_roundw
          case rel => exact ⟨k + 1, bc, bp, _, by omega, by go_num, rfl, rfl, hne.symm, hbc, hbp, HP.out, HQ.out, HB.out⟩
          case measure => simp [intOf]; omega
    · have hke : k = n := by omega
      have c0 : wr.cell? ⟨bp, m, none⟩ = some (.int .i64 (lc (eqF F G) k m)) := hrp.cell (by omega)
      have HK := (show Hid _ from hke)
      have HB := (show Hid _ from hbel)
      have hmi : (m : Int) < (m : Int) + 1 := by omega
      clear hke hrp hrc hbel
      go_wp2
      go_ret
      exact ⟨ret_int (by rw [HK.out]), HB.out⟩

end Go.Proofs.Ybulkkyu.ASplit
