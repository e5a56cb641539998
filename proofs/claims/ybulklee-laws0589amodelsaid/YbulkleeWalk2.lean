/- LawS0589AModel: skipValue (5), zzs0589amodel (6), the law's own walk (3). -/
import Derived.Test.YbulkleeWalk1
namespace Go.Proofs.Ybulklee.Js
open Go.RowKit
set_option linter.unusedVariables false

theorem val_out {R : Nat → Int} {n i : Nat} (h : n ≤ i) : val R n i = -1 := if_pos h
theorem val_box {R : Nat → Int} {n i : Nat} (h : i < n) (h1 : R i = 34 ∨ R i = 123 ∨ R i = 91) : val R n i = rn R n 0 false false i := by
  unfold val
  rw [if_neg (by omega), if_pos h1]
theorem val_str {R : Nat → Int} {n i : Nat} (h : i < n) (h1 : R i = 34) : val R n i = sE R n false (i + 1) := by
  rw [val_box h (.inl h1), rn_out h, if_pos h1, rn_sE R n 0 (n - (i + 1)) (i + 1) false rfl, if_pos rfl]
  split
  · rename_i h2; rw [h2]
  · rfl
theorem val_sc {R : Nat → Int} {n i : Nat} (h : i < n) (h1 : ¬ (R i = 34 ∨ R i = 123 ∨ R i = 91)) : val R n i = if sc R n i = i then -1 else (sc R n i : Int) := by
  unfold val
  rw [if_neg (by omega), if_neg h1]

set_option maxHeartbeats 1000000 in
theorem value_any (x : Option Addr) (b off n cap i : Nat) (R : Nat → Int) (w : World) (hn : n ≤ 1024) (hi : i ≤ n + 1) (ht : Txt w x b off n R) :
    Calls Yba.prog 5 #[.slice x n cap, .int .i64 i] w fun e w' => e = .returned (.int .i64 (val R n i)) ∧ w' = w := by
  by_cases hlt : i < n
  · have hxx := ht.1 (by omega)
    subst hxx
    have cs := ht.2 i hlt
    have hii : (i : Int) < (n : Int) := by omega
    have HX : Hid (Txt w (some ⟨b, off, none⟩) b off n R) := ht
    clear ht
    by_cases h34 : R i = 34
    · rw [val_str hlt h34]
      have HC := (show Hid _ from string_any (some ⟨b, off, none⟩) b off n cap i R w hn (by omega) HX.out)
      obtain ⟨T, hT⟩ : ∃ T, T = sE R n false (i + 1) := ⟨_, rfl⟩
      rw [← hT] at HC ⊢
      clear hT
      obtain ⟨r, hr⟩ : ∃ r, r = R i := ⟨_, rfl⟩
      rw [← hr] at cs h34
      clear hr
      have e34 : (r == 34) = true := by simpa using h34
      clear h34
      go_enter Yba.func5, Yba.ntmps5
      go_wp2_with fail
      refine Calls.mono HC.out ?_
      rintro e w' ⟨rfl, hw⟩
      rw [hw]
      clear hw
      go_wp2
      go_ret
      exact ⟨rfl, rfl⟩
    · by_cases ho : R i = 123 ∨ R i = 91
      · rw [val_box hlt (.inr ho)]
        have HC := (show Hid _ from container_any (some ⟨b, off, none⟩) b off n cap i R w hn hlt ho HX.out)
        obtain ⟨T, hT⟩ : ∃ T, T = rn R n 0 false false i := ⟨_, rfl⟩
        rw [← hT] at HC ⊢
        clear hT
        obtain ⟨r, hr⟩ : ∃ r, r = R i := ⟨_, rfl⟩
        rw [← hr] at cs h34 ho
        clear hr
        have e34 : (r == 34) = false := by simpa using h34
        rcases ho with ho | ho
        · have eo : (r == 123) = true := by simpa using ho
          clear h34 ho
          go_enter Yba.func5, Yba.ntmps5
          go_wp2_with fail
          refine Calls.mono HC.out ?_
          rintro e w' ⟨rfl, hw⟩
          rw [hw]
          clear hw
          go_wp2
          go_ret
          exact ⟨rfl, rfl⟩
        · have eo : (r == 91) = true := by simpa using ho
          have eo2 : (r == 123) = false := by simp; omega
          clear h34 ho
          go_enter Yba.func5, Yba.ntmps5
          go_wp2_with fail
          refine Calls.mono HC.out ?_
          rintro e w' ⟨rfl, hw⟩
          rw [hw]
          clear hw
          go_wp2
          go_ret
          exact ⟨rfl, rfl⟩
      · rw [val_sc hlt (fun h => by rcases h with h | h | h <;> simp_all)]
        have HTot : Hid (i ≤ sc R n i ∧ sc R n i ≤ n) := ⟨(sc_range R n (n - i) i rfl (by omega)).1, (sc_range R n (n - i) i rfl (by omega)).2.1⟩
        obtain ⟨T, hT⟩ : ∃ T, T = sc R n i := ⟨_, rfl⟩
        rw [← hT] at HTot ⊢
        have HT : Hid (sc R n i = T) := hT.symm
        clear hT
        obtain ⟨V, hV⟩ : ∃ V : Int, V = if T = i then -1 else (T : Int) := ⟨_, rfl⟩
        rw [← hV]
        have HV : Hid (V = if T = i then -1 else (T : Int)) := hV
        clear hV
        obtain ⟨r, hr⟩ : ∃ r, r = R i := ⟨_, rfl⟩
        rw [← hr] at cs h34 ho
        clear hr
        have e34 : (r == 34) = false := by simpa using h34
        have eo : (r == 123) = false := by simp; omega
        have eo2 : (r == 91) = false := by simp; omega
        clear h34 ho
        have hge : decide ((n : Int) ≤ (i : Int)) = false := by simp; omega
        have hgeN : decide (n ≤ i) = false := by simp; omega
        go_enter Yba.func5, Yba.ntmps5
        go_wp2
        go_loop [1] (fun v => ∃ j : Nat, i ≤ j ∧ j ≤ n ∧ v = .int .i64 j ∧ sc R n j = T) (fun v => n - (intOf v).toNat)
        case atStart => exact ⟨i, Nat.le_refl _, by omega, rfl, HT.out⟩
        case round =>
          clear HT cs e34 eo eo2 hlt hii
          obtain ⟨j, hij, hjn, rfl, hT⟩ := hrel
          have HT : Hid (sc R n j = T) := hT
          clear hT
          by_cases hjl : j < n
          · have cs := HX.out.2 j hjl
            have hji : (j : Int) < (n : Int) := by omega
            cases he : ends (R j) with
            | true =>
              have HE : Hid (T = j) := by
                show _ = _
                rw [← HT.out, sc_step hjl, if_pos he]
              have HC : Hid (∀ w, Calls Yba.prog 10 #[.int .u8 (R j)] w fun e w' => e = .returned (.bool true) ∧ w' = w) := fun w => by
                have := ends10 (R j) w
                rw [he] at this
                exact this
              clear he
              by_cases hji2 : j = i
              · have eq1 : ((j : Int) == (i : Int)) = true := by simp; omega
                have HJI : Hid (j = i) := hji2
                clear hji2
                go_wp2_with fail
                refine Calls.mono (HC.out _) ?_
                rintro e w' ⟨rfl, hw⟩
                rw [hw]
                clear hw
                go_wp2
                go_ret
                exact ⟨ret_int (by rw [HV.out, if_pos (by rw [HE.out, HJI.out])]), rfl⟩
              · have eq1 : ((j : Int) == (i : Int)) = false := by simp; omega
                have HJI : Hid (j ≠ i) := hji2
                clear hji2
                go_wp2_with fail
                refine Calls.mono (HC.out _) ?_
                rintro e w' ⟨rfl, hw⟩
                rw [hw]
                clear hw
                go_wp2
                go_ret
                exact ⟨ret_int (by rw [HV.out, if_neg (by rw [HE.out]; exact HJI.out), HE.out]), rfl⟩
            | false =>
              have HN : Hid (sc R n (j + 1) = T) := by
                show _ = _
                rw [← HT.out, sc_step hjl, if_neg (by rw [he]; decide)]
              have HC : Hid (∀ w, Calls Yba.prog 10 #[.int .u8 (R j)] w fun e w' => e = .returned (.bool false) ∧ w' = w) := fun w => by
                have := ends10 (R j) w
                rw [he] at this
                exact this
              clear he
              go_wp2_with fail
              refine Calls.mono (HC.out _) ?_
              rintro e w' ⟨rfl, hw⟩
              rw [hw]
              clear hw
              go_wp2
              go_round
              case rel => exact ⟨j + 1, by omega, by omega, by go_num, HN.out⟩
              case measure => simp [intOf]; omega
          · have HE : Hid (T = j) := by
              show _ = _
              rw [← HT.out, sc_end (by omega)]
            have hd : decide ((j : Int) < (n : Int)) = false := by simp; omega
            by_cases hji2 : j = i
            · have eq1 : ((j : Int) == (i : Int)) = true := by simp; omega
              have HJI : Hid (j = i) := hji2
              clear hji2
              go_wp2
              go_ret
              exact ⟨ret_int (by rw [HV.out, if_pos (by rw [HE.out, HJI.out])]), rfl⟩
            · have eq1 : ((j : Int) == (i : Int)) = false := by simp; omega
              have HJI : Hid (j ≠ i) := hji2
              clear hji2
              go_wp2
              go_ret
              exact ⟨ret_int (by rw [HV.out, if_neg (by rw [HE.out]; exact HJI.out), HE.out]), rfl⟩
  · rw [val_out (by omega)]
    clear ht
    go_enter Yba.func5, Yba.ntmps5
    go_wp2
    go_ret
    exact ⟨rfl, rfl⟩

end Go.Proofs.Ybulklee.Js
