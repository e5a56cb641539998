/- LawS0589AModel: the law's own walk (3). -/
import Derived.Test.YbulkleeWalk3
namespace Go.Proofs.Ybulklee.Js
open Go.RowKit
set_option linter.unusedVariables false

theorem val_stop (R : Nat → Int) (n i : Nat) (h : i < n) (h1 : ¬ (R i = 34 ∨ R i = 123 ∨ R i = 91)) (hv : val R n i ≠ -1) (h2 : val R n i < n) : ends (R (val R n i).toNat) = true := by
  rw [val_sc h h1] at hv h2 ⊢
  split at hv
  · exact absurd rfl hv
  · rename_i h3
    rw [if_neg h3] at h2
    rw [if_neg h3, Int.toNat_natCast]
    exact (sc_range R n (n - i) i rfl (by omega)).2.2 (by omega)

set_option maxHeartbeats 1000000 in
theorem law_any (x : Option Addr) (b off n cap : Nat) (R : Nat → Int) (k : Int) (w : World) (hn : n ≤ 1024) (hk : 0 ≤ k ∧ k ≤ 65535) (ht : Txt w x b off n R) :
    Calls Yba.prog 3 #[.slice x n cap, .int .u16 k] w fun e w' => e = .returned (.bool true) ∧ w' = w := by
  obtain ⟨k1, k2⟩ := hk
  have hg : ¬ ((1024 : Int) < (n : Int)) := by omega
  have hpos : (0 : Int) < (n : Int) + 2 := by omega
  obtain ⟨i, hi⟩ : ∃ i : Nat, k % ((n : Int) + 2) = i := ⟨(k % ((n : Int) + 2)).toNat, by have := Int.emod_nonneg k (show (n : Int) + 2 ≠ 0 by omega); omega⟩
  have hin : i ≤ n + 1 := by have := Int.emod_lt_of_pos k hpos; omega
  have HC5 := (show Hid _ from value_any x b off n cap i R w hn hin ht)
  have HC6 := (show Hid _ from model_any x b off n cap i R w hn hin ht)
  have hvr := val_range R n i
  have hvs := val_stop R n i
  obtain ⟨v, hv⟩ : ∃ v, v = val R n i := ⟨_, rfl⟩
  rw [← hv] at HC5 HC6 hvr hvs
  clear hv
  have HX : Hid (Txt w x b off n R) := ht
  have HVs : Hid (i < n → ¬ (R i = 34 ∨ R i = 123 ∨ R i = 91) → v ≠ -1 → v < n → ends (R v.toNat) = true) := hvs
  clear ht hvs
  have hvv : (v != v) = false := by simp
  rcases hvr with hm | ⟨h1, h2, h3⟩
  · have em : (v == -1) = true := by simpa using hm
    clear hm
    go_enter Yba.func3, Yba.ntmps3
    go_wp2_with fail
    first | rw [hi] | skip
    refine Calls.mono HC5.out ?_
    rintro e w' ⟨rfl, hw⟩
    rw [hw]
    clear hw w'
    go_wp2_with fail
    first | rw [hi] | skip
    refine Calls.mono HC6.out ?_
    rintro e w' ⟨rfl, hw⟩
    rw [hw]
    clear hw w'
    go_wp2
    go_ret
    exact ⟨rfl, rfl⟩
  · have hxx := HX.out.1 (by omega)
    subst hxx
    have cs := HX.out.2 i h1
    have hii : (i : Int) < (n : Int) := by omega
    have em : (v == -1) = false := by simp; omega
    have d1 : decide (v ≤ (i : Int)) = false := by simp; omega
    have d2 : decide ((n : Int) < v) = false := by simp; omega
    obtain ⟨r, hr⟩ : ∃ r, r = R i := ⟨_, rfl⟩
    rw [← hr] at cs HVs
    clear hr
    by_cases hbox : r = 34 ∨ r = 123 ∨ r = 91
    · have hx3 : ((r != 34) = false) ∨ ((r != 34) = true ∧ (r != 123) = false) ∨ ((r != 34) = true ∧ (r != 123) = true ∧ (r != 91) = false) := by
        rcases hbox with h | h | h <;> subst h <;> decide
      clear hbox
      rcases hx3 with e1 | ⟨e1, e2⟩ | ⟨e1, e2, e3⟩
      all_goals
        go_enter Yba.func3, Yba.ntmps3
        go_wp2_with fail
        first | rw [hi] | skip
        refine Calls.mono HC5.out ?_
        rintro e w' ⟨rfl, hw⟩
        rw [hw]
        clear hw w'
        go_wp2_with fail
        first | rw [hi] | skip
        refine Calls.mono HC6.out ?_
        rintro e w' ⟨rfl, hw⟩
        rw [hw]
        clear hw w'
        go_wp2
        go_ret
        exact ⟨rfl, rfl⟩
    · have e1 : (r != 34) = true := by simp; omega
      have e2 : (r != 123) = true := by simp; omega
      have e3 : (r != 91) = true := by simp; omega
      by_cases hvn : v < (n : Int)
      · have hends := HVs.out h1 hbox (by omega) hvn
        obtain ⟨q, hq⟩ : ∃ q : Nat, v = q := ⟨v.toNat, by omega⟩
        subst hq
        rw [Int.toNat_natCast] at hends
        have cq := HX.out.2 q (by omega)
        have HC7 : Hid (∀ w, Calls Yba.prog 7 #[.int .u8 (R q)] w fun e w' => e = .returned (.bool true) ∧ w' = w) := fun w => by
          have := ends7 (R q) w
          rw [hends] at this
          exact this
        clear hbox hends
        go_enter Yba.func3, Yba.ntmps3
        go_wp2_with fail
        first | rw [hi] | skip
        refine Calls.mono HC5.out ?_
        rintro e w' ⟨rfl, hw⟩
        rw [hw]
        clear hw w'
        go_wp2_with fail
        first | rw [hi] | skip
        refine Calls.mono HC6.out ?_
        rintro e w' ⟨rfl, hw⟩
        rw [hw]
        clear hw w'
        go_wp2_with fail
        refine Calls.mono (HC7.out _) ?_
        rintro e w' ⟨rfl, hw⟩
        rw [hw]
        clear hw w'
        go_wp2
        go_ret
        exact ⟨rfl, rfl⟩
      · have d3 : decide (v < (n : Int)) = false := by simpa using hvn
        clear hbox
        go_enter Yba.func3, Yba.ntmps3
        go_wp2_with fail
        first | rw [hi] | skip
        refine Calls.mono HC5.out ?_
        rintro e w' ⟨rfl, hw⟩
        rw [hw]
        clear hw w'
        go_wp2_with fail
        first | rw [hi] | skip
        refine Calls.mono HC6.out ?_
        rintro e w' ⟨rfl, hw⟩
        rw [hw]
        clear hw w'
        go_wp2
        go_ret
        exact ⟨rfl, rfl⟩
end Go.Proofs.Ybulklee.Js
