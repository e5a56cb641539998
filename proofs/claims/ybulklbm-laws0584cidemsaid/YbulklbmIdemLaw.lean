/- LawS0584CIdem: the law's own walk (5). -/
import Derived.Test.YbulklbmSWalk2
import Derived.Deep.RegionHeld3
namespace Go.Proofs.Ybulklbm.Skip
open Go.RowKit
set_option linter.unusedVariables false

theorem bel_drewN {B : Nat} {w w' : World} (h : Below B w w') (n : Nat) : Below B w (w'.drewN n) := ⟨h.os, h.tape, h.output, h.size, h.block⟩

set_option maxHeartbeats 4000000 in
theorem idemLaw (x : Option Addr) (b off n cap : Nat) (z : Nat → Int) (start line col : Int) (w : World) (hn : n ≤ 4096) (hx : 0 < n → x = some ⟨b, off, none⟩ ∧ b < w.heap.size)
    (hz : ∀ j, j < n → w.cell? ⟨b, off + j, none⟩ = some (.int .u8 (z j))) (hzb : ∀ j, j < n → 0 ≤ z j ∧ z j ≤ 255) (hst : 0 ≤ start ∧ start ≤ 65535) :
    Calls Yba.prog 5 #[.slice x n cap, .int .u16 start, .int .i32 line, .int .i32 col] w fun e w' => e = .returned (.bool true) ∧ Below w.heap.size w w' := by
  have HBd := (show Hid _ from build_any x b off n cap z start line col w hn hx hz hzb hst)
  have hg : ¬ ((4096 : Int) < (n : Int)) := by omega
  clear hx hz hzb hst
  go_enter Yba.func5, Yba.ntmps5
  go_wp2_with fail
  refine Calls.mono HBd.out ?_
  rintro e w1 ⟨S, g, R, i0, rfl, hi0, HS1⟩
  clear HBd
  go_wp2_with fail
  refine Calls.mono (skip_any w _ S g n R i0 line col w1 hn hi0 HS1.out) ?_
  rintro e w2 ⟨rfl, HSw2⟩
  have hdone := rs_done R n false i0 line col hi0
  have hagain := rs_again R n false i0 line col hi0
  obtain ⟨i1, hi1⟩ : ∃ i1, i1 = (rs R n false i0 line col).1 := ⟨_, rfl⟩
  obtain ⟨l1, hl1⟩ : ∃ l1, l1 = (rs R n false i0 line col).2.1 := ⟨_, rfl⟩
  obtain ⟨c1, hc1⟩ : ∃ c1, c1 = (rs R n false i0 line col).2.2 := ⟨_, rfl⟩
  rw [← hi1] at hdone hagain
  rw [← hi1, ← hl1, ← hc1] at HSw2
  obtain ⟨d1, d2, d3⟩ := hdone
  have hag := hagain l1 c1
  have HA : Hid (rs R n false i1 l1 c1 = (i1, l1, c1)) := hag
  have HD3 : Hid (i1 < n → R i1 ≠ 37 ∧ isSp (R i1) = false) := d3
  clear hi1 hl1 hc1 hag hagain d3 HS1
  have k0 := HSw2.out.c0
  have k1 := HSw2.out.c1
  have k2 := HSw2.out.c2
  have k3 := HSw2.out.c3
  have j1 : decide ((i1 : Int) < (i0 : Int)) = false := by simp; omega
  go_wp2
  go_quiet (fail)
  obtain ⟨Wa, hWa⟩ : ∃ W, W = w2.drewN nq := ⟨_, rfl⟩
  rw [← hWa]
  have HSWa : Hid (Sc w w1 S g n R i1 l1 c1 Wa) := by rw [hWa]; exact HSw2.out.drewN _
  clear hWa k0 k1 k2 k3
  have k0 := HSWa.out.c0
  have k1 := HSWa.out.c1
  have k2 := HSWa.out.c2
  have k3 := HSWa.out.c3
  clear HSw2
  go_wp2
  go_quiet (fail)
  obtain ⟨Wb, hWb⟩ : ∃ W, W = Wa.drewN nq := ⟨_, rfl⟩
  rw [← hWb]
  have HSWb : Hid (Sc w w1 S g n R i1 l1 c1 Wb) := by rw [hWb]; exact HSWa.out.drewN _
  clear hWb k0 k1 k2 k3
  have k0 := HSWb.out.c0
  have k1 := HSWb.out.c1
  have k2 := HSWb.out.c2
  have k3 := HSWb.out.c3
  clear HSWa j1
  by_cases hlt : i1 < n
  · have hlti : (i1 : Int) < (n : Int) := by omega
    have ks := HSWb.out.src i1 hlt
    obtain ⟨h37, hsp⟩ := HD3.out hlt
    obtain ⟨r, hr⟩ : ∃ r, r = R i1 := ⟨_, rfl⟩
    rw [← hr] at ks h37 hsp
    clear hr
    have e37 : (r == 37) = false := by simpa using h37
    have hra : r < 0 ∨ (32 < r ∧ r < 128) ∨ 160 < r := by
      simp [isSp] at hsp
      omega
    clear h37 hsp HD3
    go_wp2
    go_quiet (fail)
    obtain ⟨Wc, hWc⟩ : ∃ W, W = Wb.drewN nq := ⟨_, rfl⟩
    rw [← hWc]
    have HSWc : Hid (Sc w w1 S g n R i1 l1 c1 Wc) := by rw [hWc]; exact HSWb.out.drewN _
    clear hWc k0 k1 k2 k3
    have k0 := HSWc.out.c0
    have k1 := HSWc.out.c1
    have k2 := HSWc.out.c2
    have k3 := HSWc.out.c3
    clear HSWb ks hlti
    rcases hra with hr1 | ⟨hr1, hr2⟩ | hr1
    · have hr3 : decide (0 ≤ r) = false := by simp; omega
      have hSlt := lt_of_cell k0
      have hne : S ≠ Wc.heap.size := by omega
      go_wp2
      go_region
      go_wp2_with fail
      refine Calls.mono (skip_any w _ S g n R i1 l1 c1 _ hn d2 ((HSWc.out.alloc #[.int .i32 l1, .int .i32 c1] 49).drewN 1)) ?_
      rintro e w5 ⟨rfl, HS5⟩
      rw [HA.out] at HS5
      have m1 := HS5.out.c1
      have m2 := HS5.out.c2
      have m3 := HS5.out.c3
      have m4 : w5.cell? ⟨Wc.heap.size, 0, none⟩ = some (.int .i32 l1) := HS5.out.keep ⟨Wc.heap.size, 0, none⟩ _ (Ne.symm hne) ((World.cell?_alloc_at _ _ _ _ rfl).trans rfl)
      have m5 : w5.cell? ⟨Wc.heap.size, 1, none⟩ = some (.int .i32 c1) := HS5.out.keep ⟨Wc.heap.size, 1, none⟩ _ (Ne.symm hne) ((World.cell?_alloc_at _ _ _ _ rfl).trans rfl)
      have HB5 : Hid (Below w.heap.size w w5) := HS5.out.bel
      clear HS5 HSWc k0 k1 k2 k3
      go_wp2
      go_quiet (fail)
      go_wp2
      go_ret
      exact ⟨rfl, bel_drewN HB5.out _⟩
    · have hr3 : decide (r ≤ 32) = false := by simp; omega
      have hr4 : decide (128 ≤ r) = false := by simp; omega
      have q1 : decide (0 ≤ r) = true := by simp; omega
      have hSlt := lt_of_cell k0
      have hne : S ≠ Wc.heap.size := by omega
      go_wp2
      go_region
      go_wp2_with fail
      refine Calls.mono (skip_any w _ S g n R i1 l1 c1 _ hn d2 ((HSWc.out.alloc #[.int .i32 l1, .int .i32 c1] 49).drewN 1)) ?_
      rintro e w5 ⟨rfl, HS5⟩
      rw [HA.out] at HS5
      have m1 := HS5.out.c1
      have m2 := HS5.out.c2
      have m3 := HS5.out.c3
      have m4 : w5.cell? ⟨Wc.heap.size, 0, none⟩ = some (.int .i32 l1) := HS5.out.keep ⟨Wc.heap.size, 0, none⟩ _ (Ne.symm hne) ((World.cell?_alloc_at _ _ _ _ rfl).trans rfl)
      have m5 : w5.cell? ⟨Wc.heap.size, 1, none⟩ = some (.int .i32 c1) := HS5.out.keep ⟨Wc.heap.size, 1, none⟩ _ (Ne.symm hne) ((World.cell?_alloc_at _ _ _ _ rfl).trans rfl)
      have HB5 : Hid (Below w.heap.size w w5) := HS5.out.bel
      clear HS5 HSWc k0 k1 k2 k3
      go_wp2
      go_quiet (fail)
      go_wp2
      go_ret
      exact ⟨rfl, bel_drewN HB5.out _⟩
    · have hr3 : decide (r ≤ 32) = false := by simp; omega
      have hr4 : decide (r ≤ 160) = false := by simp; omega
      have q1 : decide (0 ≤ r) = true := by simp; omega
      have q2 : decide (128 ≤ r) = true := by simp; omega
      have hSlt := lt_of_cell k0
      have hne : S ≠ Wc.heap.size := by omega
      go_wp2
      go_region
      go_wp2_with fail
      refine Calls.mono (skip_any w _ S g n R i1 l1 c1 _ hn d2 ((HSWc.out.alloc #[.int .i32 l1, .int .i32 c1] 49).drewN 1)) ?_
      rintro e w5 ⟨rfl, HS5⟩
      rw [HA.out] at HS5
      have m1 := HS5.out.c1
      have m2 := HS5.out.c2
      have m3 := HS5.out.c3
      have m4 : w5.cell? ⟨Wc.heap.size, 0, none⟩ = some (.int .i32 l1) := HS5.out.keep ⟨Wc.heap.size, 0, none⟩ _ (Ne.symm hne) ((World.cell?_alloc_at _ _ _ _ rfl).trans rfl)
      have m5 : w5.cell? ⟨Wc.heap.size, 1, none⟩ = some (.int .i32 c1) := HS5.out.keep ⟨Wc.heap.size, 1, none⟩ _ (Ne.symm hne) ((World.cell?_alloc_at _ _ _ _ rfl).trans rfl)
      have HB5 : Hid (Below w.heap.size w w5) := HS5.out.bel
      clear HS5 HSWc k0 k1 k2 k3
      go_wp2
      go_quiet (fail)
      go_wp2
      go_ret
      exact ⟨rfl, bel_drewN HB5.out _⟩
  · clear HD3
    have hSlt := lt_of_cell k0
    have hne : S ≠ Wb.heap.size := by omega
    go_wp2
    go_region
    go_wp2_with fail
    refine Calls.mono (skip_any w _ S g n R i1 l1 c1 _ hn d2 ((HSWb.out.alloc #[.int .i32 l1, .int .i32 c1] 49).drewN 1)) ?_
    rintro e w5 ⟨rfl, HS5⟩
    rw [HA.out] at HS5
    have m1 := HS5.out.c1
    have m2 := HS5.out.c2
    have m3 := HS5.out.c3
    have m4 : w5.cell? ⟨Wb.heap.size, 0, none⟩ = some (.int .i32 l1) := HS5.out.keep ⟨Wb.heap.size, 0, none⟩ _ (Ne.symm hne) ((World.cell?_alloc_at _ _ _ _ rfl).trans rfl)
    have m5 : w5.cell? ⟨Wb.heap.size, 1, none⟩ = some (.int .i32 c1) := HS5.out.keep ⟨Wb.heap.size, 1, none⟩ _ (Ne.symm hne) ((World.cell?_alloc_at _ _ _ _ rfl).trans rfl)
    have HB5 : Hid (Below w.heap.size w w5) := HS5.out.bel
    clear HS5 HSWb k0 k1 k2 k3
    go_wp2
    go_quiet (fail)
    go_wp2
    go_ret
    exact ⟨rfl, bel_drewN HB5.out _⟩

end Go.Proofs.Ybulklbm.Skip
