/-
  THE SHELL OF A PROOF OF 'Rows.LawS0579CExactSaid' ('example.com/tributary/tributary/internal/rcs.LawS0579CExact'), WRITTEN BY PROGRAM (proof-skeleton.mjs) off the guide's own print for that function.
-/
import Derived.Test.YbulkkyuRows
import Derived.WalkKit
import Derived.ProofKit
import Derived.OpenShut
import Derived.ShutString
import Derived.WalkSpells
import Derived.Deep.QuietTactic
import Derived.BigQuiet
namespace Go.Proofs.Ybulkkyu.lawS0579CExact
open Go.ChangeShapes Go.WideShapes Go.ChangeAt Go.RowKit
open Go.ChangeMaps (open_string shut_string)
set_option linter.unusedVariables false      -- a walk need not use every 'w<i>' (that an integer argument fits its kind)

theorem not_empty (a : ByteArray) (h : ¬ a.size = 0) : a.toList.isEmpty = false := by
  rw [ByteArray.toList_eq]
  cases hl : a.data.toList with
  | nil => exact absurd (by have := congrArg List.length hl; simpa using this) h
  | cons _ _ => rfl

theorem index_right (a b : ByteArray) (j : Nat) (h : j < b.size) (w : World) : (Instr.index 9 (.string (a ++ b)) (.int .i64 ((a.size : Int) + (j : Int)))).run Yba.prog w = .ok (.int .u8 b[j].toNat) w := by
  have hsz : (a ++ b).size = a.size + b.size := ByteArray.size_append
  rw [run_index_string _ _ _ _ _ Yba.underlying9, dif_pos (by rw [hsz]; omega)]
  have e : ((a.size : Int) + (j : Int)).toNat = a.size + j := by omega
  simp only [e]
  rw [ByteArray.getElem_append_right (by omega)]
  simp

theorem own : ownKnob Yba.prog.godebug = none := by kernel_rfl

/-! ### STEP 1: THE WALK: the Go text returns true. 'Grown w w'': the world has at most new blocks (Derived/RowKit3.lean). Part the cases AHEAD of 'go_enter' where a test parts the walk; take each callee by a contract of your own. -/
theorem walk (a0 : ByteArray) (a1 : ByteArray) (w0 : a0.size ≤ maxLen) (w1 : a1.size ≤ maxLen) (w : World) :
    Calls Yba.prog 6 #[.string a0, .string a1] w fun e w' => e = .returned (.bool true) ∧ Grown w w' := by
  unfold maxLen at w0 w1
  by_cases hb0 : (4096 : Int) < (a0.size : Int)
  · go_enter Yba.func6, Yba.ntmps6
    go_wp2
    go_ret
    exact ⟨rfl, Grown.refl _⟩
  by_cases hb1 : (4096 : Int) < (a1.size : Int)
  · go_enter Yba.func6, Yba.ntmps6
    go_wp2
    go_ret
    exact ⟨rfl, Grown.refl _⟩
  by_cases h0 : a1.size = 0
  · have he : a1 = { data := #[] } := by
      apply ByteArray.ext
      apply Array.eq_empty_of_size_eq_zero
      exact h0
    subst he
    go_enter Yba.func6, Yba.ntmps6
    go_wp2
    go_ret
    exact ⟨rfl, Grown.refl _⟩
  · have hne : a1.toList.isEmpty = false := not_empty a1 h0
    have hsz : (a0 ++ a1).size = a0.size + a1.size := ByteArray.size_append
    go_enter Yba.func6, Yba.ntmps6
    go_wp2
    go_loopw [6] (fun i wr => ∃ k : Nat, k ≤ a0.size ∧ i = .int .i64 k ∧ Grown w wr) (fun i _ => a0.size - (intOf i).toNat)
    case atStart => exact ⟨0, Nat.zero_le _, rfl, Grown.refl _⟩
    case round =>
      obtain ⟨k, hk, rfl, hg⟩ := hrel
      by_cases hlt : k < a0.size
      · have hi : (k : Int) < (a0.size : Int) := by omega
        have hix : (k : Int) < ((a0 ++ a1).size : Int) := by omega
        go_wp2
        go_quiet (fail)
        go_wp2
        go_roundw
        case rel => exact ⟨k + 1, by omega, by go_num, hg⟩
        case measure => simp [intOf]; omega
      · go_wp2
        go_loopw [7] (fun i wr => ∃ k : Nat, k ≤ a1.size ∧ i = .int .i64 k ∧ Grown w wr) (fun i _ => a1.size - (intOf i).toNat)
        case atStart => exact ⟨0, Nat.zero_le _, rfl, hg⟩
        case round =>
          obtain ⟨j, hj, rfl, hg⟩ := hrel
          by_cases hlt : j < a1.size
          · have hi : (j : Int) < (a1.size : Int) := by omega
            have hrun := index_right a0 a1 j hlt
            go_wp2
            go_quiet (fail)
            go_wp2
            go_roundw
            case rel => exact ⟨j + 1, by omega, by go_num, hg⟩
            case measure => simp [intOf]; omega
          · go_wp2
            go_ret
            exact ⟨rfl, hg⟩

/-! ### THE ROW's STEP: WRITTEN OUT: LEAVE IT -/
set_option maxRecDepth 100000 in
theorem lifted (os : Os) (started : os.Started) (H : Type) (enc : TypeId × Value → H) :
    ReturnsInHanded {} Yba.checked os 6 .any (Rows.lawS0579CExactSpec.pre6 enc Yba.prog Yba.f6 Rows.lawS0579CExactRow.domain false) (Rows.lawS0579CExactSpec.post enc Yba.prog Yba.f6 false true false false) := by
  refine returnsInHanded_of_change (C := Yba.checked) own started (by kernel_rfl) Yba.func6
    (ChangeSpec.witness6 (enc := enc) (C := Yba.checked) false ⟨#[], #[.string ByteArray.empty, .string ByteArray.empty], []⟩ 8 (by kernel_rfl) (by kernel_rfl) (by kernel_rfl) (by kernel_rfl)) ?_
  intro W base args ds gs before hval0 hW hcnd _
  have hval : ∀ (j : Nat) t v, Yba.f6.params[j]? = some t → args[j]? = some v → Value.okWide Yba.prog W .any base t v := hval0
  have hW' := hW
  obtain ⟨p, q, hA0, hV, rfl, hfz, hnd⟩ := hW
  have hA : DataW.TrodAll enc Yba.prog W 0 (fun _ => true) true Yba.f6.params.toList args.toList ds p := hA0
  rw [Yba.params6] at hA hval
  obtain ⟨v0, vs0, d0, ds0, p0, q0, hargs, rfl, rfl, h0, r0⟩ := trodAll_cons hA
  obtain ⟨v1, vs1, d1, ds1, p1, q1, rfl, rfl, rfl, h1, r1⟩ := trodAll_cons r0
  obtain ⟨rfl, rfl, rfl⟩ := trodAll_nil r1
  obtain rfl : args = #[v0, v1] := by cases args; simp_all
  obtain ⟨rfl, rfl⟩ := trodVars_none hV
  obtain ⟨a0, rfl, rfl, rfl, w0⟩ := open_string Yba.underlying9 (hval 0 9 v0 rfl rfl) h0
  obtain ⟨a1, rfl, rfl, rfl, w1⟩ := open_string Yba.underlying9 (hval 1 9 v1 rfl rfl) h1
  clear hA0 hval0
  simp only [List.append_nil] at hW'
  refine (walk a0 a1 w0 w1 W).mono fun e W' ⟨he, hg⟩ => ?_
  subst he
  exact ⟨_, rfl, post_of_same (pa := []) (pv := []) hW' (fun _ _ _ => (trodAll_cons_mk (shut_bool Yba.underlying4 _) trodAll_mk0)) (fun sp _ => (trodAll_cons_mk (shut_string Yba.underlying9 w0) (trodAll_cons_mk (shut_string Yba.underlying9 w1) trodAll_mk0))) (fun _ _ => rfl) rfl
    (hg.frame _) hg.2.1 (ok_one (by kernel_rfl) rfl (okWide_bool_mk Yba.underlying4 _))⟩

theorem over : Rows.lawS0579CExactRow.holds Yba.pinned (OpenSpec.ofChange Rows.lawS0579CExactSpec) :=
  OpenClaim.holds_of_wide 6 Yba.f6 rfl rfl rfl rfl rfl rfl rfl ⟨rfl, rfl, rfl, rfl, rfl⟩ rfl rfl rfl rfl rfl (by kernel_rfl) Yba.func6 (by kernel_rfl)
    (of_decide_eq_true (by kernel_rfl)) (by unfold Func.isWrapper; first | (rw [if_pos (by decide +kernel)]; kernel_rfl) | (rw [if_neg (by decide +kernel)]; exact ⟨rfl, rfl⟩))
    (fun os started H enc _ => lifted os started H enc)

/-- ████ THE STATEMENT ████ -/
theorem proved : Rows.LawS0579CExactSaid :=
  over
#print axioms proved
end Go.Proofs.Ybulkkyu.lawS0579CExact
