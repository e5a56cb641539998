/- LawS0579ASplitKeepsLCS: the law's own walk (3). -/
import Derived.Test.YbulkkyuAWalk3
import Derived.Test.YbulkkyuAWalk4
import Derived.Test.YbulkkyuAWalk5
import Derived.OpenShut
namespace Go.Proofs.Ybulkkyu.ASplit
open Go.RowKit Lcs
set_option linter.unusedVariables false
attribute [local go_sem ↓] Go.wp_at_zero Go.wp_at_succ

theorem block_lt {w : World} {b o : Nat} {v : Value} (h : w.cell? ⟨b, o, none⟩ = some v) : b < w.heap.size := by
  by_cases hb : b < w.heap.size
  · exact hb
  · have : w.heap[b]? = none := Array.getElem?_eq_none (by omega)
    simp [World.cell?, this] at h

theorem below_of_drew {B : Nat} {w w' : World} (h : Below B w.drew w') : Below B w w' := ⟨h.os, h.tape, h.output, h.size, h.block⟩

set_option maxRecDepth 100000 in
set_option maxHeartbeats 4000000 in
theorem law_core (b off la ca : Nat) (z : Nat → Int) (b' off' lb cb : Nat) (z' : Nat → Int) (s0 s1 t0 t1 : Int) (w : World)
    (h0 : 0 < la) (h0' : 0 < lb) (hla : la ≤ 300) (hlb : lb ≤ 300)
    (hz : ∀ i, i < la → w.cell? ⟨b, off + i, none⟩ = some (.int .u8 (z i))) (hzb : ∀ i, i < la → 0 ≤ z i ∧ z i ≤ 255)
    (hz' : ∀ i, i < lb → w.cell? ⟨b', off' + i, none⟩ = some (.int .u8 (z' i))) (hzb' : ∀ i, i < lb → 0 ≤ z' i ∧ z' i ≤ 255)
    (u2 : 0 ≤ s0 ∧ s0 ≤ 65535) (u3 : 0 ≤ s1 ∧ s1 ≤ 65535) (u4 : 0 ≤ t0 ∧ t0 ≤ 65535) (u5 : 0 ≤ t1 ∧ t1 ≤ 65535) :
    Calls Yba.prog 3 #[.slice (some ⟨b, off, none⟩) la ca, .slice (some ⟨b', off', none⟩) lb cb, .int .u16 s0, .int .u16 s1, .int .u16 t0, .int .u16 t1] w fun e w' => e = .returned (.bool true) ∧ Below w.heap.size w w' := by
  have hb : b < w.heap.size := block_lt (hz 0 h0)
  have hb' : b' < w.heap.size := block_lt (hz' 0 h0')
  have hlaI : (0 : Int) < (la : Int) := by omega
  have hlbI : (0 : Int) < (lb : Int) := by omega
  -- the four cuts
  have m1 := Int.emod_nonneg s0 (show (la : Int) ≠ 0 by omega)
  have m2 := Int.emod_lt_of_pos s0 hlaI
  obtain ⟨p0, r1⟩ : ∃ p : Nat, s0 % (la : Int) = p := ⟨(s0 % (la : Int)).toNat, by omega⟩
  have hp0 : p0 < la := by omega
  have m3 := Int.emod_nonneg s1 (show (la : Int) - p0 ≠ 0 by omega)
  have m4 := Int.emod_lt_of_pos s1 (show 0 < (la : Int) - p0 by omega)
  obtain ⟨y0, r2⟩ : ∃ p : Nat, s1 % ((la : Int) - p0) = p := ⟨(s1 % ((la : Int) - p0)).toNat, by omega⟩
  obtain ⟨p1, r3⟩ : ∃ p : Nat, (p0 : Int) + 1 + y0 = p := ⟨p0 + 1 + y0, by omega⟩
  have hp1 : p0 < p1 ∧ p1 ≤ la := by omega
  have m5 := Int.emod_nonneg t0 (show (lb : Int) ≠ 0 by omega)
  have m6 := Int.emod_lt_of_pos t0 hlbI
  obtain ⟨q0, r4⟩ : ∃ p : Nat, t0 % (lb : Int) = p := ⟨(t0 % (lb : Int)).toNat, by omega⟩
  have hq0 : q0 < lb := by omega
  have m7 := Int.emod_nonneg t1 (show (lb : Int) - q0 ≠ 0 by omega)
  have m8 := Int.emod_lt_of_pos t1 (show 0 < (lb : Int) - q0 by omega)
  obtain ⟨y1, r5⟩ : ∃ p : Nat, t1 % ((lb : Int) - q0) = p := ⟨(t1 % ((lb : Int) - q0)).toNat, by omega⟩
  obtain ⟨q1, r6⟩ : ∃ p : Nat, (q0 : Int) + 1 + y1 = p := ⟨q0 + 1 + y1, by omega⟩
  have hq1 : q0 < q1 ∧ q1 ≤ lb := by omega
  clear m1 m2 m3 m4 m5 m6 m7 m8
  obtain ⟨u21, u22⟩ := u2
  obtain ⟨u31, u32⟩ := u3
  obtain ⟨u41, u42⟩ := u4
  obtain ⟨u51, u52⟩ := u5
  obtain ⟨hp1a, hp1b⟩ := hp1
  obtain ⟨hq1a, hq1b⟩ := hq1
  have zz0 : ((la : Int) == 0) = false := by simp; omega
  have zz1 : ((lb : Int) == 0) = false := by simp; omega
  have HS1 := (show Hid _ from small_any b off la ca z hla w hb hz hzb)
  have HZ' := (show Hid _ from hz')
  have HZb' := (show Hid _ from hzb')
  clear hz hzb hz' hzb'
  go_enter Yba.func3, Yba.ntmps3
  go_wp2_with fail
  refine Calls.mono HS1.out ?_
  rintro e w1 ⟨rfl, hr1, hb1, hs1⟩
  have HS2 := (show Hid _ from small_any b' off' lb cb z' hlb w1 (by omega) (fun i hi => (hb1.cell hb').trans (HZ'.out i hi)) HZb'.out)
  have Hr1 := (show Hid _ from hr1)
  have Hb1 := (show Hid _ from hb1)
  have Hs1 := (show Hid _ from hs1)
  clear hr1 hb1 hs1 HS1
  go_wp2_with fail
  refine Calls.mono HS2.out ?_
  rintro e w2 ⟨rfl, hr2, hb2, hs2⟩
  clear HS2
  go_wp2_with fail
  rw [r1, r4, Hs1.out]
  rw [Hs1.out] at hr2 hb2 hs2
  obtain ⟨A, hA⟩ : ∃ A : Nat → Int, A = fun i => z i % 3 := ⟨_, rfl⟩
  obtain ⟨B, hB⟩ : ∃ B : Nat → Int, B = fun i => z' i % 3 := ⟨_, rfl⟩
  have T2 : Two w.heap.size la lb A B w2 := by
    refine ⟨by omega, fun i hi => ?_, fun i hi => ?_⟩
    · rw [hA]; exact (hb2.cell (by simp)).trans (World.rowIs.cell Hr1.out hi)
    · rw [hB]; exact hr2.cell hi
  clear hA hB hr2 Hr1
  have B2 : Below w.heap.size w w2 := Hb1.out.trans (hb2.mono (by omega))
  have HT2 : Hid (Two w.heap.size la lb A B w2) := T2
  have HB2 := (show Hid _ from B2)
  have Hs2 := (show Hid _ from hs2)
  clear T2 B2 hb2 hs2 Hb1 Hs1 HZ' HZb' r1 r2 r3 r4 r5 r6 zz0 zz1
  refine Calls.mono (search_any w.heap.size (w.heap.size + 1) la lb w2 hla hlb) ?_
  rintro e w3 ⟨bs, bf, bb, rfl, hmd⟩
  have HB3 : Hid (Below (w.heap.size + 2) w2 w3) := hmd.bel.mono (by rw [Hs2.out]; omega)
  have HT3 : Hid (Two w.heap.size la lb A B w3) := Two.below HT2.out HB3.out
  obtain ⟨E, hE⟩ : ∃ E, E = eqF (fun p => A (p0 + p)) (fun q => B (q0 + q)) := ⟨_, rfl⟩
  have hsz := Hs2.out
  have HMid := (show Hid _ from middle_any bs w.heap.size (w.heap.size + 1) bf bb la lb ((la + lb + 1) / 2) p0 p1 q0 q1 (p1 - p0) (q1 - q0) A B E (fun p q => by rw [hE]; rfl) (fun _ => 0) (fun _ => 0) w3
    hla hlb (by omega) (by omega) (by omega) (by omega) hp1b hq1b hmd.c0 hmd.c1 hmd.c4 hmd.c5 hmd.c6 HT3.out.2.1 HT3.out.2.2 hmd.rV hmd.rU (fun _ => by omega) (fun _ => by omega)
    ⟨hmd.n1, hmd.n2, hmd.n3, by have := hmd.z4; omega, by have := hmd.z5; omega, by have := hmd.z4; omega, by have := hmd.z5; omega, hmd.l1, by have := hmd.l1; have := hmd.z1; omega, by have := hmd.l1; have := hmd.z1; omega, hmd.rV.lt, hmd.rU.lt⟩)
  have Hz4 : Hid (w.heap.size + 2 ≤ bf) := by have := hmd.z4; show _ ≤ _; omega
  have Hz5 : Hid (w.heap.size + 2 ≤ bb) := by have := hmd.z5; show _ ≤ _; omega
  have HE := (show Hid _ from hE)
  clear hmd hE hsz
  go_wp2_with fail
  refine Calls.mono HMid.out ?_
  rintro e w4 ⟨x, y, rfl, hO, hB4⟩
  have HB4 : Hid (Below (w.heap.size + 2) w3 w4) := hB4 _ Hz4.out Hz5.out
  have HT4 : Hid (Two w.heap.size la lb A B w4) := Two.below HT3.out HB4.out
  have hx := hO.1
  have hy := hO.2.1
  have HO : Hid (Opt E (p1 - p0) (q1 - q0) x y) := hO
  clear hO hB4 HMid
  obtain ⟨X, hX⟩ : ∃ X, X = p0 + x := ⟨_, rfl⟩
  obtain ⟨Y, hY⟩ : ∃ Y, Y = q0 + y := ⟨_, rfl⟩
  rw [← hX, ← hY]
  have k1 : p0 ≤ X := by omega
  have k2 : X ≤ p1 := by omega
  have k3 : q0 ≤ Y := by omega
  have k4 : Y ≤ q1 := by omega
  have HX : Hid (X = p0 + x) := hX
  have HY : Hid (Y = q0 + y) := hY
  clear hX hY hx hy
  have i1 : decide ((X : Int) < (p0 : Int)) = false := by simp; omega
  have i2 : decide ((p1 : Int) < (X : Int)) = false := by simp; omega
  have i3 : decide ((Y : Int) < (q0 : Int)) = false := by simp; omega
  have i4 : decide ((q1 : Int) < (Y : Int)) = false := by simp; omega
  go_wp2
  have sl1 := slice_run w.heap.size la p0 p1 (by omega) hp1b
  have sl2 := slice_run (w.heap.size + 1) lb q0 q1 (by omega) hq1b
  go_region_with (go_at_call 11; refine (lcs_let w.heap.size la lb A B p0 p1 q0 q1 hla hlb (Nat.le_of_lt hp1a) hp1b (Nat.le_of_lt hq1a) hq1b _ ?_).mono ?_; exact HT4.out; rintro e w5 ⟨r0, rfl, Hr0, r01, r02, HB5, HT5⟩)
  clear sl1 sl2 i1 i2 i3 i4
  have X1 : X ≤ la := Nat.le_trans k2 hp1b
  have Y1 : Y ≤ lb := Nat.le_trans k4 hq1b
  have sl1 := slice_run w.heap.size la p0 X k1 X1
  have sl2 := slice_run (w.heap.size + 1) lb q0 Y k3 Y1
  have sl3 := slice_run w.heap.size la X p1 k2 hp1b
  have sl4 := slice_run (w.heap.size + 1) lb Y q1 k4 hq1b
  go_wp2
  go_region_with (first | (go_at_call_of 11 (cutAt w.heap.size la p0); refine (lcs_let w.heap.size la lb A B p0 X q0 Y hla hlb k1 X1 k3 Y1 _ ?_).mono ?_; exact HT5.out; rintro e w6 ⟨s1, rfl, Hs1, s11, s12, HB6, HT6⟩) | (go_at_call_of 11 (cutAt w.heap.size la X); refine (lcs_let w.heap.size la lb A B X p1 Y q1 hla hlb k2 hp1b k4 hq1b _ ?_).mono ?_; exact HT6.out; rintro e w7 ⟨s2, rfl, Hs2, s21, s22, HB7, HT7⟩))
  have hsum : s1 + s2 = r0 := by
    have g := HO.out.2.2
    rw [HE.out, sh_cut] at g
    have e0 := Hr0.out
    have e1 := Hs1.out
    have e2 := Hs2.out
    rw [HX.out, HY.out] at e1 e2
    rw [show p0 + x - p0 = x by omega, show q0 + y - q0 = y by omega] at e1
    rw [show p1 - (p0 + x) = p1 - p0 - x by omega, show q1 - (q0 + y) = q1 - q0 - y by omega] at e2
    omega
  have hwr : IntKind.i64.wrap (s1 + s2) = s1 + s2 := IntWalk.i64_in _ (by omega)
  have HS : Hid (s1 + s2 = r0) := hsum
  clear hsum sl1 sl2 sl3 sl4 Hr0 Hs1 Hs2
  go_wp2
  go_ret
  refine ⟨?_, ?_⟩
  · have e2 : IntKind.i64.wrap r0 = r0 := IntWalk.i64_in _ (by omega)
    rw [HS.out, e2, show (r0 == r0) = true by simp]
    rfl
  · have b5 : Below (w.heap.size + 2) w4 w5 := below_of_drew HB5.out
    have b6 : Below (w.heap.size + 2) w5 w6 := below_of_drew HB6.out
    have b7 : Below (w.heap.size + 2) w6 w7 := HB7.out
    exact HB2.out.trans ((HB3.out.trans (HB4.out.trans (b5.trans (b6.trans b7)))).mono (by omega))

theorem law_any (a0 : Option Addr) (len0 cap0 : Nat) (z0 : List Int) (a1 : Option Addr) (len1 cap1 : Nat) (z1 : List Int) (a2 a3 a4 a5 : Int) (w : World)
    (w0 : (a0 = none ∧ len0 = 0 ∧ cap0 = 0 ∧ z0 = []) ∨ ∃ x, a0 = some x ∧ len0 ≤ cap0 ∧ cap0 ≤ maxLen ∧ z0.length = cap0 ∧ (∀ i, i < z0.length → w.cell? (x.add i) = some (.int .u8 (z0.getD i 0))) ∧ ∀ n ∈ z0, (Lit.int .u8 n).wf = true)
    (w1 : (a1 = none ∧ len1 = 0 ∧ cap1 = 0 ∧ z1 = []) ∨ ∃ x, a1 = some x ∧ len1 ≤ cap1 ∧ cap1 ≤ maxLen ∧ z1.length = cap1 ∧ (∀ i, i < z1.length → w.cell? (x.add i) = some (.int .u8 (z1.getD i 0))) ∧ ∀ n ∈ z1, (Lit.int .u8 n).wf = true)
    (u2 : 0 ≤ a2 ∧ a2 ≤ 65535) (u3 : 0 ≤ a3 ∧ a3 ≤ 65535) (u4 : 0 ≤ a4 ∧ a4 ≤ 65535) (u5 : 0 ≤ a5 ∧ a5 ≤ 65535) :
    Calls Yba.prog 3 #[.slice a0 len0 cap0, .slice a1 len1 cap1, .int .u16 a2, .int .u16 a3, .int .u16 a4, .int .u16 a5] w fun e w' => e = .returned (.bool true) ∧ Below w.heap.size w w' := by
  by_cases g0 : 300 < (len0 : Int)
  · have hm0 : len0 ≤ maxLen := by rcases w0 with ⟨_, h, _⟩ | ⟨_, _, h, h', _⟩ <;> (unfold maxLen at *; omega)
    unfold maxLen at hm0
    clear w0 w1
    go_enter Yba.func3, Yba.ntmps3
    go_wp2
    go_ret
    exact ⟨rfl, Below.refl _ _⟩
  by_cases g1 : 300 < (len1 : Int)
  · have hm1 : len1 ≤ maxLen := by rcases w1 with ⟨_, h, _⟩ | ⟨_, _, h, h', _⟩ <;> (unfold maxLen at *; omega)
    unfold maxLen at hm1
    clear w0 w1
    go_enter Yba.func3, Yba.ntmps3
    go_wp2
    go_ret
    exact ⟨rfl, Below.refl _ _⟩
  by_cases y0 : len0 = 0
  · subst y0
    clear w0 w1
    go_enter Yba.func3, Yba.ntmps3
    go_wp2
    go_ret
    exact ⟨rfl, Below.refl _ _⟩
  by_cases y1 : len1 = 0
  · subst y1
    clear w0 w1
    have e0 : ((len0 : Int) == 0) = false := by simp; omega
    go_enter Yba.func3, Yba.ntmps3
    go_wp2
    go_ret
    exact ⟨rfl, Below.refl _ _⟩
  rcases w0 with ⟨_, h, _⟩ | ⟨x0, rfl, hc0, _, hl0, hcell0, hwf0⟩
  · omega
  rcases w1 with ⟨_, h, _⟩ | ⟨x1, rfl, hc1, _, hl1, hcell1, hwf1⟩
  · omega
  obtain ⟨b, off, rfl, hz⟩ := ints_at hcell0 (by omega)
  obtain ⟨b', off', rfl, hz'⟩ := ints_at hcell1 (by omega)
  have bd : ∀ (l : List Int), (∀ n ∈ l, (Lit.int .u8 n).wf = true) → ∀ i, i < l.length → 0 ≤ l.getD i 0 ∧ l.getD i 0 ≤ 255 := fun l hl i hi => by
    have hm : l.getD i 0 ∈ l := by rw [List.getD_eq_getElem?_getD, List.getElem?_eq_getElem hi]; exact List.getElem_mem hi
    exact bounds_u8 (hl _ hm)
  exact law_core b off len0 cap0 (fun i => z0.getD i 0) b' off' len1 cap1 (fun i => z1.getD i 0) a2 a3 a4 a5 w (by omega) (by omega) (by omega) (by omega)
    (fun i hi => hz i (by omega)) (fun i hi => bd z0 hwf0 i (by omega)) (fun i hi => hz' i (by omega)) (fun i hi => bd z1 hwf1 i (by omega)) u2 u3 u4 u5
end Go.Proofs.Ybulkkyu.ASplit
