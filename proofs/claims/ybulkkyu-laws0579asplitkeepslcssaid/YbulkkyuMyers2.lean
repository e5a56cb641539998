/- The plain invariants of the loops of diff.middle. No Go in sight. -/
import Derived.Test.YbulkkyuMyers
namespace Go.Proofs.Ybulkkyu.Lcs

def upd (V : Int → Int) (k x : Int) : Int → Int := fun j => if j = k then x else V j
theorem upd_same (V : Int → Int) (k x : Int) : upd V k x k = x := by simp [upd]
theorem upd_other (V : Int → Int) {k j : Int} (x : Int) (h : j ≠ k) : upd V k x j = V j := by simp [upd, h]

/-- in step D, the forward diagonals below K done -/
structure Fwd (e : Nat → Nat → Bool) (n m : Nat) (D K : Int) (V U : Int → Int) : Prop where
  okV : 0 < D → Ok e n m (D - 1) V
  okU : 0 < D → Ok (rev e n m) n m (D - 1) U
  done : ∀ j, -D ≤ j → j < K → (j - D) % 2 = 0 → SndAt e n m D j (V j) ∧ CmpAt e n m D j (V j)
  no : ((n : Int) - m) % 2 ≠ 0 → ∀ j, -D ≤ j → j < K → (j - D) % 2 = 0 → 0 ≤ V j → -(D - 1) ≤ (n : Int) - m - j → (n : Int) - m - j ≤ D - 1 → V j + U ((n : Int) - m - j) < n
  odd : ((n : Int) - m) % 2 ≠ 0 → 2 * D - 1 ≤ ED e n m
  even : ((n : Int) - m) % 2 = 0 → 2 * D ≤ ED e n m

/-- in step D, all forward diagonals and the backward ones below K done -/
structure Bwd (e : Nat → Nat → Bool) (n m : Nat) (D K : Int) (V U : Int → Int) : Prop where
  okV : Ok e n m D V
  okU : 0 < D → Ok (rev e n m) n m (D - 1) U
  done : ∀ j, -D ≤ j → j < K → (j - D) % 2 = 0 → SndAt (rev e n m) n m D j (U j) ∧ CmpAt (rev e n m) n m D j (U j)
  no : ((n : Int) - m) % 2 = 0 → ∀ j, -D ≤ j → j < K → (j - D) % 2 = 0 → 0 ≤ U j → -D ≤ (n : Int) - m - j → (n : Int) - m - j ≤ D → U j + V ((n : Int) - m - j) < n
  odd : ((n : Int) - m) % 2 ≠ 0 → 2 * (D + 1) - 1 ≤ ED e n m
  even : ((n : Int) - m) % 2 = 0 → 2 * D ≤ ED e n m

variable {e : Nat → Nat → Bool} {n m : Nat} {D K : Int} {V U : Int → Int}

theorem Fwd.start (e : Nat → Nat → Bool) (n m : Nat) (V U : Int → Int) : Fwd e n m 0 (-0) V U :=
  ⟨fun h => by omega, fun h => by omega, fun j _ _ _ => by omega, fun _ j _ _ _ => by omega, fun _ => by have := ED_nonneg e n m; omega, fun _ => by have := ED_nonneg e n m; omega⟩

theorem Fwd.step (h : Fwd e n m D K V U) (hp : (K - D) % 2 = 0) {x : Int} (hx : SndAt e n m D K x ∧ CmpAt e n m D K x)
    (hno : ((n : Int) - m) % 2 ≠ 0 → 0 ≤ x → -(D - 1) ≤ (n : Int) - m - K → (n : Int) - m - K ≤ D - 1 → x + U ((n : Int) - m - K) < n) : Fwd e n m D (K + 2) (upd V K x) U := by
  refine ⟨fun hd k h1 h2 h3 => ?_, h.okU, fun j h1 h2 h3 => ?_, fun ho j h1 h2 h3 => ?_, h.odd, h.even⟩
  · rw [upd_other V x (by omega)]
    exact h.okV hd k h1 h2 h3
  · by_cases ej : j = K
    · subst ej; rw [upd_same]; exact hx
    · rw [upd_other V x ej]; exact h.done j h1 (by omega) h3
  · by_cases ej : j = K
    · subst ej; rw [upd_same]; exact hno ho
    · rw [upd_other V x ej]; exact h.no ho j h1 (by omega) h3

theorem Fwd.over (h : Fwd e n m D K V U) (hd : 0 ≤ D) (hK : D < K) : Bwd e n m D (-D) V U := by
  have ok : Ok e n m D V := fun k h1 h2 h3 => h.done k h1 (by omega) h3
  refine ⟨ok, h.okU, fun j _ _ _ => by omega, fun _ j _ _ _ => by omega, fun ho => ?_, h.even⟩
  exact not_met_odd hd ok h.okU ho (h.odd ho) (fun k h1 h2 h3 => h.no ho k h1 (by omega) h3)

theorem Bwd.step (h : Bwd e n m D K V U) (hp : (K - D) % 2 = 0) {x : Int} (hx : SndAt (rev e n m) n m D K x ∧ CmpAt (rev e n m) n m D K x)
    (hno : ((n : Int) - m) % 2 = 0 → 0 ≤ x → -D ≤ (n : Int) - m - K → (n : Int) - m - K ≤ D → x + V ((n : Int) - m - K) < n) : Bwd e n m D (K + 2) V (upd U K x) := by
  refine ⟨h.okV, fun hd k h1 h2 h3 => ?_, fun j h1 h2 h3 => ?_, fun ho j h1 h2 h3 => ?_, h.odd, h.even⟩
  · rw [upd_other U x (by omega)]
    exact h.okU hd k h1 h2 h3
  · by_cases ej : j = K
    · subst ej; rw [upd_same]; exact hx
    · rw [upd_other U x ej]; exact h.done j h1 (by omega) h3
  · by_cases ej : j = K
    · subst ej; rw [upd_same]; exact hno ho
    · rw [upd_other U x ej]; exact h.no ho j h1 (by omega) h3

theorem Bwd.over (h : Bwd e n m D K V U) (hd : 0 ≤ D) (hK : D < K) : Fwd e n m (D + 1) (-(D + 1)) V U := by
  have ok : Ok (rev e n m) n m D U := fun k h1 h2 h3 => h.done k h1 (by omega) h3
  have e1 : D + 1 - 1 = D := by omega
  refine ⟨fun _ => by rw [e1]; exact h.okV, fun _ => by rw [e1]; exact ok, fun j _ _ _ => by omega, fun _ j _ _ _ => by omega, h.odd, fun ho => ?_⟩
  exact not_met_even hd h.okV ok ho (h.even ho) (fun k h1 h2 h3 => h.no ho k h1 (by omega) h3)

theorem Fwd.out (h : Fwd e n m D K V U) (hD : ((n : Int) + m + 1) / 2 < D) : False := by
  have hl := ED_le e n m
  by_cases ho : ((n : Int) - m) % 2 = 0
  · have := h.even ho; omega
  · have := h.odd ho; omega

theorem Fwd.met (h : Fwd e n m D K V U) (hp : (K - D) % 2 = 0) {x : Int} (hx : SndAt e n m D K x) (ho : ((n : Int) - m) % 2 ≠ 0) (h0 : 0 ≤ x) (h1 : -(D - 1) ≤ (n : Int) - m - K) (h2 : (n : Int) - m - K ≤ D - 1)
    (hmeet : (n : Int) ≤ x + U ((n : Int) - m - K)) : ∃ X Y : Nat, x = X ∧ x - K = Y ∧ Opt e n m X Y := by
  have hu := (h.okU (by omega) ((n : Int) - m - K) h1 h2 (by omega)).1
  have hxn : x ≤ n := by rcases hx with h | ⟨_, _, _, _, _, _, _⟩ <;> omega
  exact Lcs.met hx hu h0 (by omega) hmeet (by have := h.odd ho; omega)

theorem Bwd.met (h : Bwd e n m D K V U) (hp : (K - D) % 2 = 0) {x : Int} (hx : SndAt (rev e n m) n m D K x) (ho : ((n : Int) - m) % 2 = 0) (h1 : -D ≤ (n : Int) - m - K) (h2 : (n : Int) - m - K ≤ D) (h0 : 0 ≤ x)
    (hmeet : (n : Int) ≤ x + V ((n : Int) - m - K)) : ∃ X Y : Nat, X ≤ n ∧ Y ≤ m ∧ x = X ∧ x - K = Y ∧ Opt e n m (n - X) (m - Y) := by
  have hv := (h.okV ((n : Int) - m - K) h1 h2 (by omega)).1
  have hxn : x ≤ n := by rcases hx with h | ⟨_, _, _, _, _, _, _⟩ <;> omega
  exact met' hv hx (by omega) h0 hmeet (by have := h.even ho; omega)

theorem sndAt_le {d k v : Int} (h : SndAt e n m d k v) : -1 ≤ v ∧ v ≤ n := by rcases h with h | ⟨_, _, _, _, _, _, _⟩ <;> omega
theorem upd_bd (hV : ∀ j, -1 ≤ V j ∧ V j ≤ 300) {k x : Int} (hx : -1 ≤ x ∧ x ≤ 300) : ∀ j, -1 ≤ upd V k x j ∧ upd V k x j ≤ 300 := fun j => by
  by_cases ej : j = k
  · subst ej; rw [upd_same]; exact hx
  · rw [upd_other V x ej]; exact hV j
theorem stuck_none (e : Nat → Nat → Bool) (n m : Nat) (k : Int) : Stuck e n m k (-1) := fun x _ h => by omega
end Go.Proofs.Ybulkkyu.Lcs
