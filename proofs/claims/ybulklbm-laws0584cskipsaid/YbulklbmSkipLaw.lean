/- LawS0584CSkip: the law's own walk (4). -/
import Derived.Test.YbulklbmSWalk2
namespace Go.Proofs.Ybulklbm.Skip
open Go.RowKit
set_option linter.unusedVariables false

def bOf : Value → Nat
  | .bool true => 1
  | _ => 0

set_option maxHeartbeats 4000000 in
theorem skipLaw (x : Option Addr) (b off n cap : Nat) (z : Nat → Int) (start line col : Int) (w : World) (hn : n ≤ 4096) (hx : 0 < n → x = some ⟨b, off, none⟩ ∧ b < w.heap.size)
    (hz : ∀ j, j < n → w.cell? ⟨b, off + j, none⟩ = some (.int .u8 (z j))) (hzb : ∀ j, j < n → 0 ≤ z j ∧ z j ≤ 255) (hst : 0 ≤ start ∧ start ≤ 65535) :
    Calls Yba.prog 4 #[.slice x n cap, .int .u16 start, .int .i32 line, .int .i32 col] w fun e w' => e = .returned (.bool true) ∧ Below w.heap.size w w' := by
  have HBd := (show Hid _ from build_any x b off n cap z start line col w hn hx hz hzb hst)
  have hg : ¬ ((4096 : Int) < (n : Int)) := by omega
  clear hx hz hzb hst
  go_enter Yba.func4, Yba.ntmps4
  go_wp2_with fail
  refine Calls.mono HBd.out ?_
  rintro e w1 ⟨S, g, R, i0, rfl, hi0, HS1⟩
  clear HBd
  have c0 := HS1.out.c0
  go_wp2_with fail
  refine Calls.mono (skip_any w _ S g n R i0 line col w1 hn hi0 HS1.out) ?_
  rintro e w2 ⟨rfl, HS2⟩
  clear c0 HS1
  obtain ⟨T, hT⟩ : ∃ T, T = rs R n false i0 line col := ⟨_, rfl⟩
  rw [← hT] at HS2
  have HT : Hid (rs R n false i0 line col = T) := hT.symm
  clear hT
  go_wp2
  go_loop [12, 13, 14, 15] (fun vj vl vc vm => ∃ (j : Nat) (l c : Int) (cm : Bool), j ≤ n ∧ vj = .int .i64 j ∧ vl = .int .i32 l ∧ vc = .int .i32 c ∧ vm = .bool cm ∧ rs R n cm j l c = T) (fun vj _ _ vm => 2 * (n - (intOf vj).toNat) + bOf vm)
  case atStart => exact ⟨i0, line, col, false, hi0, rfl, rfl, rfl, rfl, HT.out⟩
  case round =>
    clear HT
    obtain ⟨j, l, c, cm, hjn, rfl, rfl, rfl, rfl, hT⟩ := hrel
    have HT : Hid (rs R n cm j l c = T) := hT
    clear hT
    by_cases hlt : j < n
    · have cs := HS2.out.src j hlt
      have hji : (j : Int) < (n : Int) := by omega
      obtain ⟨r, hr⟩ : ∃ r, r = R j := ⟨_, rfl⟩
      rw [← hr] at cs
      have HR : Hid (R j = r) := hr.symm
      clear hr
      cases cm with
      | true =>
        by_cases hstop : r < 0 ∨ r = 10
        · have HF : Hid (rs R n false j l c = T) := by
            show _ = _
            rw [← HT.out, rs_out hlt (by rw [HR.out]; exact hstop)]
          rcases hstop with h | h
          · have h10 : (r == 10) = false := by simp; omega
            go_wp2
            go_round
            case rel => exact ⟨j, l, c, false, hjn, rfl, rfl, rfl, rfl, HF.out⟩
            case measure => simp [intOf, bOf]
          · have h10 : (r == 10) = true := by simpa using h
            have h0 : decide (r < 0) = false := by simp; omega
            clear h
            go_wp2
            go_round
            case rel => exact ⟨j, l, c, false, hjn, rfl, rfl, rfl, rfl, HF.out⟩
            case measure => simp [intOf, bOf]
        · have h10 : (r == 10) = false := by simp; omega
          have h0 : decide (r < 0) = false := by simp; omega
          have HF : Hid (rs R n true (j + 1) l (wrap32 (c + 1)) = T) := by
            show _ = _
            have e := rs_in (l := l) (c := c) hlt (show 0 ≤ R j by rw [HR.out]; omega) (show R j ≠ 10 by rw [HR.out]; omega)
            rw [show nl (R j) l = l from if_neg (by rw [HR.out]; omega), show nc (R j) c = wrap32 (c + 1) from if_neg (by rw [HR.out]; omega)] at e
            rw [← HT.out, e]
          clear hstop
          go_wp2
          go_round
          case rel => exact ⟨j + 1, l, _, true, by omega, by go_num, rfl, rfl, rfl, HF.out⟩
          case measure => simp [intOf, bOf]; omega
      | false =>
        by_cases h37 : r = 37
        · have e37 : (r == 37) = true := by simpa using h37
          have h10 : (r == 10) = false := by simp; omega
          have HF : Hid (rs R n true (j + 1) l (wrap32 (c + 1)) = T) := by
            show _ = _
            have e := rs_pct1 (l := l) (c := c) hlt (show R j = 37 by rw [HR.out]; exact h37)
            rw [show nl (R j) l = l from if_neg (by rw [HR.out]; omega), show nc (R j) c = wrap32 (c + 1) from if_neg (by rw [HR.out]; omega)] at e
            rw [← HT.out, e]
          clear h37
          go_wp2
          go_round
          case rel => exact ⟨j + 1, l, _, true, by omega, by go_num, rfl, rfl, rfl, HF.out⟩
          case measure => simp [intOf, bOf]; omega
        · have e37 : (r == 37) = false := by simpa using h37
          cases hsp : isSp r with
          | true =>
            have HF : Hid (rs R n false (j + 1) (nl r l) (nc r c) = T) := by
              show _ = _
              rw [← HT.out, rs_sp hlt (by rw [HR.out]; exact h37) (by rw [HR.out]; exact hsp), HR.out]
            by_cases h10' : r = 10
            · have h10 : (r == 10) = true := by simpa using h10'
              rw [show nl r l = wrap32 (l + 1) from if_pos h10', show nc r c = 1 from if_pos h10'] at HF
              have hra : 0 ≤ r ∧ r ≤ 32 := by omega
              obtain ⟨hr1, hr2⟩ := hra
              clear hsp h37 h10'
              go_wp2
              go_round
              case rel => exact ⟨j + 1, _, _, false, by omega, by go_num, rfl, rfl, rfl, HF.out⟩
              case measure => simp [intOf, bOf]; omega
            · have h10 : (r == 10) = false := by simpa using h10'
              rw [show nl r l = l from if_neg h10', show nc r c = wrap32 (c + 1) from if_neg h10'] at HF
              have hra : 0 ≤ r ∧ r ≤ 32 ∨ 128 ≤ r ∧ r ≤ 160 := by simpa [isSp] using hsp
              clear hsp h37 h10'
              rcases hra with ⟨hr1, hr2⟩ | ⟨hr1, hr2⟩
              · go_wp2
                go_round
                case rel => exact ⟨j + 1, _, _, false, by omega, by go_num, rfl, rfl, rfl, HF.out⟩
                case measure => simp [intOf, bOf]; omega
              · have hr3 : decide (r ≤ 32) = false := by simp; omega
                have q1 : decide (0 ≤ r) = true := by simp; omega
                have q2 : decide (128 ≤ r) = true := by simp; omega
                go_wp2
                go_round
                case rel => exact ⟨j + 1, _, _, false, by omega, by go_num, rfl, rfl, rfl, HF.out⟩
                case measure => simp [intOf, bOf]; omega
          | false =>
            have HE : Hid (T = (j, l, c)) := by
              show _ = _
              rw [← HT.out, rs_stop hlt (by rw [HR.out]; exact h37) (by rw [HR.out]; exact hsp)]
            have hra : r < 0 ∨ (32 < r ∧ r < 128) ∨ 160 < r := by
              simp [isSp] at hsp
              omega
            have c1 : w2.cell? ⟨S, 1, none⟩ = some (.int .i64 j) := by rw [HS2.out.c1, HE.out]
            have c2 : w2.cell? ⟨S, 2, none⟩ = some (.int .i32 l) := by rw [HS2.out.c2, HE.out]
            have c3 : w2.cell? ⟨S, 3, none⟩ = some (.int .i32 c) := by rw [HS2.out.c3, HE.out]
            have HB : Hid (Below w.heap.size w w2) := HS2.out.bel
            clear hsp h37
            rcases hra with hr1 | ⟨hr1, hr2⟩ | hr1
            · have hr3 : decide (0 ≤ r) = false := by simp; omega
              go_wp2
              go_ret
              exact ⟨rfl, HB.out⟩
            · have hr3 : decide (r ≤ 32) = false := by simp; omega
              have hr4 : decide (128 ≤ r) = false := by simp; omega
              have q1 : decide (0 ≤ r) = true := by simp; omega
              go_wp2
              go_ret
              exact ⟨rfl, HB.out⟩
            · have hr3 : decide (r ≤ 32) = false := by simp; omega
              have hr4 : decide (r ≤ 160) = false := by simp; omega
              have q1 : decide (0 ≤ r) = true := by simp; omega
              have q2 : decide (128 ≤ r) = true := by simp; omega
              go_wp2
              go_ret
              exact ⟨rfl, HB.out⟩
    · have HE : Hid (T = (j, l, c)) := by
        show _ = _
        rw [← HT.out, rs_end (by omega)]
      have c1 : w2.cell? ⟨S, 1, none⟩ = some (.int .i64 j) := by rw [HS2.out.c1, HE.out]
      have c2 : w2.cell? ⟨S, 2, none⟩ = some (.int .i32 l) := by rw [HS2.out.c2, HE.out]
      have c3 : w2.cell? ⟨S, 3, none⟩ = some (.int .i32 c) := by rw [HS2.out.c3, HE.out]
      have HB : Hid (Below w.heap.size w w2) := HS2.out.bel
      go_wp2
      go_ret
      exact ⟨rfl, HB.out⟩

end Go.Proofs.Ybulklbm.Skip
