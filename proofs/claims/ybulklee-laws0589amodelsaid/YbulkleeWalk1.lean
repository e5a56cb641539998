/- LawS0589AModel: zzs0589aends (7), endsScalar (10), stringEnd (8), containerEnd (9), skipValue (5). -/
import Derived.Test.YbulkleeRows
import Derived.Test.YbulkleePlain
import Derived.WalkKit
import Derived.WalkSpells
import Derived.BigGuardPart
namespace Go.Proofs.Ybulklee.Js
open Go.RowKit
set_option linter.unusedVariables false

theorem ret_int {k : IntKind} {a b : Int} (h : a = b) : Ending.returned (.int k a) = .returned (.int k b) := by rw [h]
theorem ret_bool {a b : Bool} (h : a = b) : Ending.returned (.bool a) = .returned (.bool b) := by rw [h]

theorem ends7 (c : Int) (w : World) : Calls Yba.prog 7 #[.int .u8 c] w fun e w' => e = .returned (.bool (ends c)) ∧ w' = w := by
  go_enter Yba.func7, Yba.ntmps7
  go_wp2
  all_goals (go_ret; exact ⟨ret_bool (by simp [ends, *]), rfl⟩)

theorem ends10 (c : Int) (w : World) : Calls Yba.prog 10 #[.int .u8 c] w fun e w' => e = .returned (.bool (ends c)) ∧ w' = w := by
  go_enter Yba.func10, Yba.ntmps10
  go_wp2
  all_goals (go_ret; exact ⟨ret_bool (by simp [ends, *]), rfl⟩)

/-- the text lies there -/
def Txt (w : World) (x : Option Addr) (b off n : Nat) (R : Nat → Int) : Prop :=
  (0 < n → x = some ⟨b, off, none⟩) ∧ ∀ j, j < n → w.cell? ⟨b, off + j, none⟩ = some (.int .u8 (R j))

set_option maxHeartbeats 400000 in
theorem string_any (x : Option Addr) (b off n cap i : Nat) (R : Nat → Int) (w : World) (hn : n ≤ 1024) (hi : i ≤ n) (ht : Txt w x b off n R) :
    Calls Yba.prog 8 #[.slice x n cap, .int .i64 i] w fun e w' => e = .returned (.int .i64 (sE R n false (i + 1))) ∧ w' = w := by
  obtain ⟨T, hT⟩ : ∃ T, T = sE R n false (i + 1) := ⟨_, rfl⟩
  rw [← hT]
  have HT : Hid (T = sE R n false (i + 1)) := hT
  have HX : Hid (Txt w x b off n R) := ht
  clear hT ht
  go_enter Yba.func8, Yba.ntmps8
  go_wp2
  go_loop [1] (fun v => ∃ p : Nat, p ≤ n + 1 ∧ v = .int .i64 p ∧ sE R n false p = T) (fun v => n + 1 - (intOf v).toNat)
  case atStart => exact ⟨i + 1, by omega, by go_num, HT.out.symm⟩
  case round =>
    clear HT
    obtain ⟨p, hp, rfl, hT⟩ := hrel
    have HT : Hid (sE R n false p = T) := hT
    clear hT
    by_cases hlt : p < n
    · have hxx := HX.out.1 (by omega)
      subst hxx
      have cs := HX.out.2 p hlt
      have hpi : (p : Int) < (n : Int) := by omega
      obtain ⟨r, hr⟩ : ∃ r, r = R p := ⟨_, rfl⟩
      rw [← hr] at cs
      have HR : Hid (R p = r) := hr.symm
      clear hr
      by_cases h92 : r = 92
      · have e92 : (r == 92) = true := by simpa using h92
        have HN : Hid (sE R n false (p + 2) = T) := by
          show _ = _
          rw [← HT.out, sE_back hlt (by rw [HR.out]; exact h92)]
        clear h92
        go_wp2
        go_round
        case rel => exact ⟨p + 2, by omega, by go_num, HN.out⟩
        case measure => simp [intOf]; omega
      · have e92 : (r == 92) = false := by simpa using h92
        by_cases h34 : r = 34
        · have e34 : (r == 34) = true := by simpa using h34
          have HN : Hid (T = ((p + 1 : Nat) : Int)) := by
            show _ = _
            rw [← HT.out, sE_step hlt, HR.out, if_neg h92, if_pos h34]
          clear h92 h34
          go_wp2
          go_ret
          exact ⟨ret_int (by rw [HN.out]; omega), rfl⟩
        · have e34 : (r == 34) = false := by simpa using h34
          have HN : Hid (sE R n false (p + 1) = T) := by
            show _ = _
            rw [← HT.out, sE_step hlt, HR.out, if_neg h92, if_neg h34]
          clear h92 h34
          go_wp2
          go_round
          case rel => exact ⟨p + 1, by omega, by go_num, HN.out⟩
          case measure => simp [intOf]; omega
    · have HN : Hid (T = -1) := by
        show _ = _
        rw [← HT.out, sE_end (by omega)]
      go_wp2
      go_ret
      exact ⟨ret_int (by rw [HN.out]), rfl⟩

set_option maxHeartbeats 1000000 in
theorem container_any (x : Option Addr) (b off n cap i : Nat) (R : Nat → Int) (w : World) (hn : n ≤ 1024) (hi : i < n) (h1 : R i = 123 ∨ R i = 91) (ht : Txt w x b off n R) :
    Calls Yba.prog 9 #[.slice x n cap, .int .i64 i] w fun e w' => e = .returned (.int .i64 (rn R n 0 false false i)) ∧ w' = w := by
  obtain ⟨T, hT⟩ : ∃ T, T = rn R n 0 false false i := ⟨_, rfl⟩
  rw [← hT]
  have HT : Hid (T = rn R n 0 false false i) := hT
  have HX : Hid (Txt w x b off n R) := ht
  have H1 : Hid (R i = 123 ∨ R i = 91) := h1
  clear hT ht h1
  go_enter Yba.func9, Yba.ntmps9
  go_wp2
  go_loop [1, 5] (fun v vd => ∃ (p : Nat) (d : Int), i ≤ p ∧ p ≤ n ∧ v = .int .i64 p ∧ vd = .int .i64 d ∧ 0 ≤ d ∧ d ≤ p ∧ (p = i ∨ 1 ≤ d) ∧ rn R n d false false p = T) (fun v _ => n - (intOf v).toNat)
  case atStart => exact ⟨i, 0, Nat.le_refl _, by omega, rfl, rfl, by omega, by omega, .inl rfl, HT.out.symm⟩
  case round =>
    clear HT
    obtain ⟨p, d, hip, hpn, rfl, rfl, hd0, hdp, hpd, hT⟩ := hrel
    have HT : Hid (rn R n d false false p = T) := hT
    clear hT
    by_cases hlt : p < n
    · have hxx := HX.out.1 (by omega)
      subst hxx
      have cs := HX.out.2 p hlt
      have hpi : (p : Int) < (n : Int) := by omega
      obtain ⟨r, hr⟩ : ∃ r, r = R p := ⟨_, rfl⟩
      rw [← hr] at cs
      have HR : Hid (R p = r) := hr.symm
      have hst : p = i → r = 123 ∨ r = 91 := fun h => by rw [hr, h]; exact H1.out
      clear hr
      have hrn := rn_out (R := R) (d := d) (e := false) hlt
      rw [HR.out, HT.out] at hrn
      by_cases h34 : r = 34
      · have hd1 : 1 ≤ d := by rcases hpd with h | h <;> omega
        have e34 : (r == 34) = true := by simpa using h34
        rw [if_pos h34, rn_sE R n d (n - (p + 1)) (p + 1) false rfl] at hrn
        have hrg := sE_range R n (n - (p + 1)) (p + 1) false rfl
        have HC := (show Hid _ from string_any (some ⟨b, off, none⟩) b off n cap p R w hn (by omega) HX.out)
        obtain ⟨s, hs⟩ : ∃ s, s = sE R n false (p + 1) := ⟨_, rfl⟩
        rw [← hs] at hrn hrg HC
        clear hs h34 hst hpd
        by_cases hm : s = -1
        · rw [if_pos hm] at hrn
          have HN : Hid (T = -1) := hrn
          have hs0 : s < 0 := by omega
          clear hrn hrg hm
          go_wp2_with fail
          refine Calls.mono HC.out ?_
          rintro e w' ⟨rfl, hw⟩
          rw [hw]
          clear hw
          go_wp2
          go_ret
          exact ⟨ret_int (by rw [HN.out]), rfl⟩
        · rw [if_neg hm, if_neg (by omega)] at hrn
          have hs1 : (p : Int) + 1 < s ∧ s ≤ n := by omega
          obtain ⟨q, hq⟩ : ∃ q : Nat, s = q := ⟨s.toNat, by omega⟩
          subst hq
          rw [Int.toNat_natCast] at hrn
          have HN : Hid (rn R n d false false q = T) := hrn.symm
          clear hrn hrg hm
          go_wp2_with fail
          refine Calls.mono HC.out ?_
          rintro e w' ⟨rfl, hw⟩
          rw [hw]
          clear hw
          go_wp2
          go_round
          case rel => exact ⟨q, d, by omega, by omega, rfl, rfl, hd0, by omega, .inr hd1, HN.out⟩
          case measure => simp [intOf]; omega
      · have e34 : (r == 34) = false := by simpa using h34
        rw [if_neg h34] at hrn
        by_cases ho : r = 123 ∨ r = 91
        · rw [if_pos ho] at hrn
          have HN : Hid (rn R n (d + 1) false false (p + 1) = T) := hrn.symm
          have hz : ((d + 1) == 0) = false := by simp; omega
          clear hrn hst hpd
          rcases ho with ho | ho
          · have eo : (r == 123) = true := by simpa using ho
            clear ho h34
            go_wp2
            go_round
            case rel => exact ⟨p + 1, d + 1, by omega, by omega, by go_num, rfl, by omega, by omega, .inr (by omega), HN.out⟩
            case measure => simp [intOf]; omega
          · have eo : (r == 91) = true := by simpa using ho
            have eo2 : (r == 123) = false := by simp; omega
            clear ho h34
            go_wp2
            go_round
            case rel => exact ⟨p + 1, d + 1, by omega, by omega, by go_num, rfl, by omega, by omega, .inr (by omega), HN.out⟩
            case measure => simp [intOf]; omega
        · rw [if_neg ho] at hrn
          have hd1 : 1 ≤ d := by rcases hpd with h | h <;> omega
          have eo : (r == 123) = false := by simp; omega
          have eo2 : (r == 91) = false := by simp; omega
          by_cases hc : r = 125 ∨ r = 93
          · rw [if_pos hc] at hrn
            by_cases hz : d - 1 = 0
            · rw [if_pos hz] at hrn
              have HN : Hid (T = ((p + 1 : Nat) : Int)) := hrn
              have ez : ((d - 1) == 0) = true := by simpa using hz
              clear hrn hst hpd ho h34
              rcases hc with hc | hc
              · have ec : (r == 125) = true := by simpa using hc
                clear hc hz
                go_wp2
                go_ret
                exact ⟨ret_int (by rw [HN.out]; omega), rfl⟩
              · have ec : (r == 93) = true := by simpa using hc
                have ec2 : (r == 125) = false := by simp; omega
                clear hc hz
                go_wp2
                go_ret
                exact ⟨ret_int (by rw [HN.out]; omega), rfl⟩
            · rw [if_neg hz] at hrn
              have HN : Hid (rn R n (d - 1) false false (p + 1) = T) := hrn.symm
              have ez : ((d - 1) == 0) = false := by simpa using hz
              clear hrn hst hpd ho h34
              rcases hc with hc | hc
              · have ec : (r == 125) = true := by simpa using hc
                clear hc
                go_wp2
                go_round
                case rel => exact ⟨p + 1, d - 1, by omega, by omega, by go_num, rfl, by omega, by omega, .inr (by omega), HN.out⟩
                case measure => simp [intOf]; omega
              · have ec : (r == 93) = true := by simpa using hc
                have ec2 : (r == 125) = false := by simp; omega
                clear hc
                go_wp2
                go_round
                case rel => exact ⟨p + 1, d - 1, by omega, by omega, by go_num, rfl, by omega, by omega, .inr (by omega), HN.out⟩
                case measure => simp [intOf]; omega
          · rw [if_neg hc] at hrn
            have HN : Hid (rn R n d false false (p + 1) = T) := hrn.symm
            have ez : (d == 0) = false := by simp; omega
            have ec : (r == 125) = false := by simp; omega
            have ec2 : (r == 93) = false := by simp; omega
            clear hrn hst hpd ho h34 hc
            go_wp2
            go_round
            case rel => exact ⟨p + 1, d, by omega, by omega, by go_num, rfl, by omega, by omega, .inr (by omega), HN.out⟩
            case measure => simp [intOf]; omega
    · have HN : Hid (T = -1) := by
        show _ = _
        rw [← HT.out, rn_end (by omega)]
      clear hpd
      go_wp2
      go_ret
      exact ⟨ret_int (by rw [HN.out]), rfl⟩

end Go.Proofs.Ybulklee.Js
