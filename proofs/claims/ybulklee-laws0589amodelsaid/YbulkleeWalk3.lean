/- LawS0589AModel: zzs0589amodel (6). -/
import Derived.Test.YbulkleeWalk2
namespace Go.Proofs.Ybulklee.Js
open Go.RowKit
set_option linter.unusedVariables false

set_option maxHeartbeats 2000000 in
theorem model_any (x : Option Addr) (b off n cap i : Nat) (R : Nat → Int) (w : World) (hn : n ≤ 1024) (hi : i ≤ n + 1) (ht : Txt w x b off n R) :
    Calls Yba.prog 6 #[.slice x n cap, .int .i64 i] w fun e w' => e = .returned (.int .i64 (val R n i)) ∧ w' = w := by
  by_cases hlt : i < n
  · have hxx := ht.1 (by omega)
    subst hxx
    have cs := ht.2 i hlt
    have hii : (i : Int) < (n : Int) := by omega
    have hge : decide ((n : Int) ≤ (i : Int)) = false := by simp; omega
    have hgeN : decide (n ≤ i) = false := by simp; omega
    have HX : Hid (Txt w (some ⟨b, off, none⟩) b off n R) := ht
    clear ht
    by_cases hbox : R i = 34 ∨ R i = 123 ∨ R i = 91
    · rw [val_box hlt hbox]
      obtain ⟨T, hT⟩ : ∃ T, T = rn R n 0 false false i := ⟨_, rfl⟩
      rw [← hT]
      have HT : Hid (T = rn R n 0 false false i) := hT
      clear hT
      obtain ⟨r, hr⟩ : ∃ r, r = R i := ⟨_, rfl⟩
      rw [← hr] at cs hbox
      clear hr
      have hx3 : ((r != 34) = false) ∨ ((r != 34) = true ∧ (r != 123) = false) ∨ ((r != 34) = true ∧ (r != 123) = true ∧ (r != 91) = false) := by
        rcases hbox with h | h | h <;> subst h <;> decide
      clear hbox
      rcases hx3 with e1 | ⟨e1, e2⟩ | ⟨e1, e2, e3⟩
      all_goals
        go_enter Yba.func6, Yba.ntmps6
        go_wp2
        go_loop [7, 8, 9, 10] (fun vd vs ve vj => ∃ (j : Nat) (d : Int) (st es : Bool), j ≤ n ∧ vj = .int .i64 j ∧ vd = .int .i64 d ∧ vs = .bool st ∧ ve = .bool es ∧ (st = false → es = false) ∧ -(j : Int) ≤ d ∧ d ≤ j ∧ rn R n d st es j = T) (fun _ _ _ vj => n - (intOf vj).toNat)
        case atStart => exact ⟨i, 0, false, false, by omega, rfl, rfl, rfl, rfl, fun _ => rfl, by omega, by omega, HT.out.symm⟩
        case round =>
          clear HT cs hlt hii
          obtain ⟨j, d, st, es, hjn, rfl, rfl, rfl, rfl, hse, hd1, hd2, hT⟩ := hrel
          have HT : Hid (rn R n d st es j = T) := hT
          clear hT
          by_cases hjl : j < n
          · have cs := HX.out.2 j hjl
            have hji : (j : Int) < (n : Int) := by omega
            obtain ⟨q, hq⟩ : ∃ q, q = R j := ⟨_, rfl⟩
            rw [← hq] at cs
            have HQ : Hid (R j = q) := hq.symm
            clear hq
            cases st with
            | true =>
              cases es with
              | true =>
                have HN : Hid (rn R n d true false (j + 1) = T) := by
                  show _ = _
                  rw [← HT.out, rn_esc hjl]
                clear hse
                go_wp2
                go_round
                case rel => exact ⟨j + 1, d, true, false, by omega, by go_num, rfl, rfl, rfl, fun h => (by cases h), by omega, by omega, HN.out⟩
                case measure => simp [intOf]; omega
              | false =>
                have hrn := rn_str (R := R) (d := d) hjl
                rw [HQ.out, HT.out] at hrn
                clear hse
                by_cases h92 : q = 92
                · rw [if_pos h92] at hrn
                  have HN : Hid (rn R n d true true (j + 1) = T) := hrn.symm
                  have e92 : (q == 92) = true := by simpa using h92
                  clear hrn h92
                  go_wp2
                  go_round
                  case rel => exact ⟨j + 1, d, true, true, by omega, by go_num, rfl, rfl, rfl, fun h => (by cases h), by omega, by omega, HN.out⟩
                  case measure => simp [intOf]; omega
                · rw [if_neg h92] at hrn
                  have e92 : (q == 92) = false := by simpa using h92
                  by_cases h34 : q = 34
                  · rw [if_pos h34] at hrn
                    have e34 : (q == 34) = true := by simpa using h34
                    by_cases hd0 : d = 0
                    · rw [if_pos hd0] at hrn
                      have HN : Hid (T = ((j + 1 : Nat) : Int)) := hrn
                      have ed : (d == 0) = true := by simpa using hd0
                      clear hrn h92 h34 hd0
                      go_wp2
                      go_ret
                      exact ⟨ret_int (by rw [HN.out]; omega), rfl⟩
                    · rw [if_neg hd0] at hrn
                      have HN : Hid (rn R n d false false (j + 1) = T) := hrn.symm
                      have ed : (d == 0) = false := by simpa using hd0
                      clear hrn h92 h34 hd0
                      go_wp2
                      go_round
                      case rel => exact ⟨j + 1, d, false, false, by omega, by go_num, rfl, rfl, rfl, fun _ => rfl, by omega, by omega, HN.out⟩
                      case measure => simp [intOf]; omega
                  · rw [if_neg h34] at hrn
                    have HN : Hid (rn R n d true false (j + 1) = T) := hrn.symm
                    have e34 : (q == 34) = false := by simpa using h34
                    clear hrn h92 h34
                    go_wp2
                    go_round
                    case rel => exact ⟨j + 1, d, true, false, by omega, by go_num, rfl, rfl, rfl, fun h => (by cases h), by omega, by omega, HN.out⟩
                    case measure => simp [intOf]; omega
            | false =>
              have hes : es = false := hse rfl
              subst hes
              clear hse
              have hrn := rn_out (R := R) (d := d) (e := false) hjl
              rw [HQ.out, HT.out] at hrn
              by_cases h34 : q = 34
              · rw [if_pos h34] at hrn
                have HN : Hid (rn R n d true false (j + 1) = T) := hrn.symm
                have e34 : (q == 34) = true := by simpa using h34
                clear hrn h34
                go_wp2
                go_round
                case rel => exact ⟨j + 1, d, true, false, by omega, by go_num, rfl, rfl, rfl, fun h => (by cases h), by omega, by omega, HN.out⟩
                case measure => simp [intOf]; omega
              · rw [if_neg h34] at hrn
                have e34 : (q == 34) = false := by simpa using h34
                by_cases ho : q = 123 ∨ q = 91
                · rw [if_pos ho] at hrn
                  have HN : Hid (rn R n (d + 1) false false (j + 1) = T) := hrn.symm
                  clear hrn
                  rcases ho with ho | ho
                  · have eo : (q == 123) = true := by simpa using ho
                    clear ho h34
                    go_wp2
                    go_round
                    case rel => exact ⟨j + 1, d + 1, false, false, by omega, by go_num, rfl, rfl, rfl, fun _ => rfl, by omega, by omega, HN.out⟩
                    case measure => simp [intOf]; omega
                  · have eo : (q == 91) = true := by simpa using ho
                    have eo2 : (q == 123) = false := by simp; omega
                    clear ho h34
                    go_wp2
                    go_round
                    case rel => exact ⟨j + 1, d + 1, false, false, by omega, by go_num, rfl, rfl, rfl, fun _ => rfl, by omega, by omega, HN.out⟩
                    case measure => simp [intOf]; omega
                · rw [if_neg ho] at hrn
                  have eo : (q == 123) = false := by simp; omega
                  have eo2 : (q == 91) = false := by simp; omega
                  by_cases hc : q = 125 ∨ q = 93
                  · rw [if_pos hc] at hrn
                    by_cases hz : d - 1 = 0
                    · rw [if_pos hz] at hrn
                      have HN : Hid (T = ((j + 1 : Nat) : Int)) := hrn
                      have ez : ((d - 1) == 0) = true := by simpa using hz
                      clear hrn ho h34
                      rcases hc with hc | hc
                      · have ec : (q == 125) = true := by simpa using hc
                        clear hc hz
                        go_wp2
                        go_ret
                        exact ⟨ret_int (by rw [HN.out]; omega), rfl⟩
                      · have ec : (q == 93) = true := by simpa using hc
                        have ec2 : (q == 125) = false := by simp; omega
                        clear hc hz
                        go_wp2
                        go_ret
                        exact ⟨ret_int (by rw [HN.out]; omega), rfl⟩
                    · rw [if_neg hz] at hrn
                      have HN : Hid (rn R n (d - 1) false false (j + 1) = T) := hrn.symm
                      have ez : ((d - 1) == 0) = false := by simpa using hz
                      clear hrn ho h34
                      rcases hc with hc | hc
                      · have ec : (q == 125) = true := by simpa using hc
                        clear hc hz
                        go_wp2
                        go_round
                        case rel => exact ⟨j + 1, d - 1, false, false, by omega, by go_num, rfl, rfl, rfl, fun _ => rfl, by omega, by omega, HN.out⟩
                        case measure => simp [intOf]; omega
                      · have ec : (q == 93) = true := by simpa using hc
                        have ec2 : (q == 125) = false := by simp; omega
                        clear hc hz
                        go_wp2
                        go_round
                        case rel => exact ⟨j + 1, d - 1, false, false, by omega, by go_num, rfl, rfl, rfl, fun _ => rfl, by omega, by omega, HN.out⟩
                        case measure => simp [intOf]; omega
                  · rw [if_neg hc] at hrn
                    have HN : Hid (rn R n d false false (j + 1) = T) := hrn.symm
                    have ec : (q == 125) = false := by simp; omega
                    have ec2 : (q == 93) = false := by simp; omega
                    clear hrn ho h34 hc
                    go_wp2
                    go_round
                    case rel => exact ⟨j + 1, d, false, false, by omega, by go_num, rfl, rfl, rfl, fun _ => rfl, by omega, by omega, HN.out⟩
                    case measure => simp [intOf]; omega
          · have HN : Hid (T = -1) := by
              show _ = _
              rw [← HT.out, rn_end (by omega)]
            clear hse
            go_wp2
            go_ret
            exact ⟨ret_int (by rw [HN.out]), rfl⟩
    · rw [val_sc hlt hbox]
      obtain ⟨T, hT⟩ : ∃ T, T = sc R n i := ⟨_, rfl⟩
      rw [← hT]
      have HT : Hid (sc R n i = T) := hT.symm
      clear hT
      obtain ⟨V, hV⟩ : ∃ V : Int, V = if T = i then -1 else (T : Int) := ⟨_, rfl⟩
      rw [← hV]
      have HV : Hid (V = if T = i then -1 else (T : Int)) := hV
      clear hV
      obtain ⟨r, hr⟩ : ∃ r, r = R i := ⟨_, rfl⟩
      rw [← hr] at cs hbox
      clear hr
      have e1 : (r != 34) = true := by simp; omega
      have e2 : (r != 123) = true := by simp; omega
      have e3 : (r != 91) = true := by simp; omega
      clear hbox
      go_enter Yba.func6, Yba.ntmps6
      go_wp2
      go_loop [6] (fun v => ∃ j : Nat, i ≤ j ∧ j ≤ n ∧ v = .int .i64 j ∧ sc R n j = T) (fun v => n - (intOf v).toNat)
      case atStart => exact ⟨i, Nat.le_refl _, by omega, rfl, HT.out⟩
      case round =>
        clear HT cs hlt hii
        obtain ⟨j, hij, hjn, rfl, hT⟩ := hrel
        have HT : Hid (sc R n j = T) := hT
        clear hT
        by_cases hjl : j < n
        · have cs := HX.out.2 j hjl
          have hji : (j : Int) < (n : Int) := by omega
          cases he : ends (R j) with
          | true =>
            have HE : Hid (T = j) := by
              show _ = _
              rw [← HT.out, sc_step hjl, if_pos he]
            have HC : Hid (∀ w, Calls Yba.prog 7 #[.int .u8 (R j)] w fun e w' => e = .returned (.bool true) ∧ w' = w) := fun w => by
              have := ends7 (R j) w
              rw [he] at this
              exact this
            clear he
            by_cases hji2 : j = i
            · have eq1 : ((j : Int) == (i : Int)) = true := by simp; omega
              have HJI : Hid (j = i) := hji2
              clear hji2
              go_wp2_with fail
              refine Calls.mono (HC.out _) ?_
              rintro e w' ⟨rfl, hw⟩
              rw [hw]
              clear hw
              go_wp2
              go_ret
              exact ⟨ret_int (by rw [HV.out, if_pos (by rw [HE.out, HJI.out])]), rfl⟩
            · have eq1 : ((j : Int) == (i : Int)) = false := by simp; omega
              have HJI : Hid (j ≠ i) := hji2
              clear hji2
              go_wp2_with fail
              refine Calls.mono (HC.out _) ?_
              rintro e w' ⟨rfl, hw⟩
              rw [hw]
              clear hw
              go_wp2
              go_ret
              exact ⟨ret_int (by rw [HV.out, if_neg (by rw [HE.out]; exact HJI.out), HE.out]), rfl⟩
          | false =>
            have HN : Hid (sc R n (j + 1) = T) := by
              show _ = _
              rw [← HT.out, sc_step hjl, if_neg (by rw [he]; decide)]
            have HC : Hid (∀ w, Calls Yba.prog 7 #[.int .u8 (R j)] w fun e w' => e = .returned (.bool false) ∧ w' = w) := fun w => by
              have := ends7 (R j) w
              rw [he] at this
              exact this
            clear he
            go_wp2_with fail
            refine Calls.mono (HC.out _) ?_
            rintro e w' ⟨rfl, hw⟩
            rw [hw]
            clear hw
            go_wp2
            go_round
            case rel => exact ⟨j + 1, by omega, by omega, by go_num, HN.out⟩
            case measure => simp [intOf]; omega
        · have HE : Hid (T = j) := by
            show _ = _
            rw [← HT.out, sc_end (by omega)]
          have hd : decide ((j : Int) < (n : Int)) = false := by simp; omega
          by_cases hji2 : j = i
          · have eq1 : ((j : Int) == (i : Int)) = true := by simp; omega
            have HJI : Hid (j = i) := hji2
            clear hji2
            go_wp2
            go_ret
            exact ⟨ret_int (by rw [HV.out, if_pos (by rw [HE.out, HJI.out])]), rfl⟩
          · have eq1 : ((j : Int) == (i : Int)) = false := by simp; omega
            have HJI : Hid (j ≠ i) := hji2
            clear hji2
            go_wp2
            go_ret
            exact ⟨ret_int (by rw [HV.out, if_neg (by rw [HE.out]; exact HJI.out), HE.out]), rfl⟩
  · rw [val_out (by omega)]
    clear ht
    go_enter Yba.func6, Yba.ntmps6
    go_wp2
    go_ret
    exact ⟨rfl, rfl⟩

end Go.Proofs.Ybulklee.Js
