/- LawS0579ASplitKeepsLCS: zzs0579alcs at cut slices. -/
import Derived.Test.YbulkkyuAWalk2
namespace Go.Proofs.Ybulkkyu.ASplit
open Go.RowKit Lcs

theorem lcs_none (a b : Option Addr) (n ca m cb : Nat) (F G : Nat → Int) (h : n = 0 ∨ m = 0) (hn : n ≤ 300) (hm : m ≤ 300) (w : World) :
    Calls Yba.prog 11 #[.slice a n ca, .slice b m cb] w fun e w' => e = .returned (.int .i64 (lc (eqF F G) n m)) ∧ w' = w := by
  by_cases h0 : n = 0
  · subst h0
    go_enter Yba.func11, Yba.ntmps11
    go_wp2
    go_ret
    exact ⟨ret_int rfl, rfl⟩
  · have h1 : m = 0 := by omega
    subst h1
    have z0 : ((n : Int) == 0) = false := by simp; omega
    go_enter Yba.func11, Yba.ntmps11
    go_wp2
    go_ret
    exact ⟨ret_int (by rw [lc_zero_right]; rfl), rfl⟩

/-- the address of s[l:..], s beginning at the head of block b -/
def cutAt (b cap l : Nat) : Option Addr := if cap = l then some ⟨b, 0, none⟩ else some ⟨b, l, none⟩

theorem slice_run (b cap l h : Nat) (h1 : l ≤ h) (h2 : h ≤ cap) (wx : World) : (Instr.slice 22 (.slice (some ⟨b, 0, none⟩) cap cap) (some (.int .i64 (l : Int))) (some (.int .i64 (h : Int))) none).run Yba.prog wx = .ok (.slice (cutAt b cap l) (h - l) (cap - l)) wx := by
  have hu : Yba.prog.underlying 22 = some (.slice (Yba.prog.elem 22)) := by rw [Yba.underlying22]; kernel_rfl
  rw [run_slice_lh wx 22 (some ⟨b, 0, none⟩) cap cap hu .i64 .i64 l h (by omega) (by omega) (by omega)]
  have hs : ((sizeOf (Yba.prog.elem 22)).run Yba.prog wx) = .ok 1 wx := by
    have e5 : Yba.prog.elem 22 = 5 := by kernel_rfl
    rw [e5]
    obtain ⟨i, hi, hz⟩ := Option.map_eq_some_iff.1 info5
    simp only [Prod.mk.injEq] at hz
    simp [sizeOf, typeInfo, hi, hz.2.1]
  rw [hs]
  simp only [Result.andThen, sliced, cutAt, Int.toNat_natCast, Nat.mul_one, Option.map_some]
  split
  · rfl
  · simp [Addr.add]
    omega

/-- the two copies lie there -/
def Two (N la lb : Nat) (A B : Nat → Int) (w : World) : Prop :=
  N + 1 < w.heap.size ∧ (∀ i, i < la → w.cell? ⟨N, i, none⟩ = some (.int .u8 (A i))) ∧ ∀ i, i < lb → w.cell? ⟨N + 1, i, none⟩ = some (.int .u8 (B i))

theorem Two.below {N la lb : Nat} {A B : Nat → Int} {w w' : World} (h : Two N la lb A B w) (hb : Below (N + 2) w w') : Two N la lb A B w' :=
  ⟨Nat.lt_of_lt_of_le h.1 hb.size, fun i hi => (hb.cell (by simp)).trans (h.2.1 i hi), fun i hi => (hb.cell (by simp)).trans (h.2.2 i hi)⟩
theorem Two.drewN {N la lb : Nat} {A B : Nat → Int} {w : World} (h : Two N la lb A B w) (n : Nat) : Two N la lb A B (w.drewN n) := h

theorem lcs_cut (N la lb : Nat) (A B : Nat → Int) (x x' y y' : Nat) (hla : la ≤ 300) (hlb : lb ≤ 300) (h1 : x ≤ x') (h2 : x' ≤ la) (h3 : y ≤ y') (h4 : y' ≤ lb) (w : World) (hT : Two N la lb A B w) :
    Calls Yba.prog 11 #[.slice (cutAt N la x) (x' - x) (la - x), .slice (cutAt (N + 1) lb y) (y' - y) (lb - y)] w
      fun e w' => e = .returned (.int .i64 (lc (eqF (fun p => A (x + p)) (fun q => B (y + q))) (x' - x) (y' - y))) ∧ Below w.heap.size w w' := by
  by_cases hx : x' - x = 0
  · refine (lcs_none _ _ _ _ _ _ (fun p => A (x + p)) (fun q => B (y + q)) (.inl hx) (by omega) (by omega) w).mono ?_
    rintro e w' ⟨rfl, rfl⟩
    exact ⟨rfl, Below.refl _ _⟩
  by_cases hy : y' - y = 0
  · refine (lcs_none _ _ _ _ _ _ (fun p => A (x + p)) (fun q => B (y + q)) (.inr hy) (by omega) (by omega) w).mono ?_
    rintro e w' ⟨rfl, rfl⟩
    exact ⟨rfl, Below.refl _ _⟩
  rw [show cutAt N la x = some ⟨N, x, none⟩ from if_neg (by omega), show cutAt (N + 1) lb y = some ⟨N + 1, y, none⟩ from if_neg (by omega)]
  have := hT.1
  exact lcs_full N x (x' - x) (la - x) (N + 1) y (y' - y) (lb - y) _ _ (by omega) (by omega) (by omega) (by omega) w (by omega) (by omega) (fun i hi => hT.2.1 _ (by omega)) (fun i hi => hT.2.2 _ (by omega))

/-- the same, the answer a letter -/
theorem lcs_let (N la lb : Nat) (A B : Nat → Int) (x x' y y' : Nat) (hla : la ≤ 300) (hlb : lb ≤ 300) (h1 : x ≤ x') (h2 : x' ≤ la) (h3 : y ≤ y') (h4 : y' ≤ lb) (w : World) (hT : Two N la lb A B w) :
    Calls Yba.prog 11 #[.slice (cutAt N la x) (x' - x) (la - x), .slice (cutAt (N + 1) lb y) (y' - y) (lb - y)] w
      fun e w' => ∃ r : Int, e = .returned (.int .i64 r) ∧ Hid (r = lc (eqF (fun p => A (x + p)) (fun q => B (y + q))) (x' - x) (y' - y)) ∧ 0 ≤ r ∧ r ≤ 300 ∧ Hid (Below (N + 2) w w') ∧ Hid (Two N la lb A B w') := by
  refine (lcs_cut N la lb A B x x' y y' hla hlb h1 h2 h3 h4 w hT).mono ?_
  rintro e w' ⟨rfl, hb⟩
  have hb2 : Below (N + 2) w w' := hb.mono hT.1
  have := lc_le_left (eqF (fun p => A (x + p)) (fun q => B (y + q))) (x' - x) (y' - y)
  exact ⟨_, rfl, rfl, by omega, by omega, hb2, hT.below hb2⟩

theorem sh_cut (A B : Nat → Int) (p0 q0 x y : Nat) : sh (eqF (fun p => A (p0 + p)) (fun q => B (q0 + q))) x y = eqF (fun p => A (p0 + x + p)) (fun q => B (q0 + y + q)) := by
  funext p q
  simp [sh, eqF, Nat.add_assoc]
end Go.Proofs.Ybulkkyu.ASplit
