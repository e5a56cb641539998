/- The plain mathematics of diff.middle: what the two searches keep, and why their first meeting lies on a shortest path. No Go in sight. -/
import Derived.Test.YbulkkyuLcs
namespace Go.Proofs.Ybulkkyu.Lcs

/-- what the closure 'at' of middle answers, V being what the array holds by the diagonal -/
def atF (n m : Int) (V : Int → Int) (k d : Int) : Int :=
  if d = 0 then 0
  else
    let x := if -d < k ∧ 0 ≤ V (k - 1) ∧ V (k - 1) < n then V (k - 1) + 1 else -1
    if k < d ∧ 0 ≤ V (k + 1) ∧ V (k + 1) - k ≤ m ∧ x < V (k + 1) then V (k + 1) else x

theorem at_cases (n m : Int) (V : Int → Int) (k d : Int) : atF n m V k d = -1 ∨ 0 ≤ atF n m V k d := by
  simp only [atF]
  repeat' split
  all_goals omega

/-- how many edits lead from the start to (x, y) -/
def ED (e : Nat → Nat → Bool) (x y : Nat) : Int := (x : Int) + (y : Int) - 2 * (lc e x y : Int)

theorem ED_diag1 (e : Nat → Nat → Bool) (x y : Nat) : ED e x y ≤ ED e (x + 1) (y + 1) := by
  have := lc_diag e x y
  unfold ED
  omega

theorem ED_diag (e : Nat → Nat → Bool) (x y t : Nat) : ED e x y ≤ ED e (x + t) (y + t) := by
  induction t with
  | zero => exact Int.le_refl _
  | succ t ih => exact Int.le_trans ih (ED_diag1 e (x + t) (y + t))

theorem ED_abs (e : Nat → Nat → Bool) (x y : Nat) : (x : Int) - y ≤ ED e x y ∧ (y : Int) - x ≤ ED e x y := by
  have h1 := lc_le_left e x y
  have h2 := lc_le_right e x y
  unfold ED
  omega

def Opt (e : Nat → Nat → Bool) (n m x y : Nat) : Prop := x ≤ n ∧ y ≤ m ∧ lc e x y + lc (sh e x y) (n - x) (m - y) = lc e n m

theorem split_le (e : Nat → Nat → Bool) {n m x y : Nat} (hx : x ≤ n) (hy : y ≤ m) : lc e x y + lc (sh e x y) (n - x) (m - y) ≤ lc e n m := by
  have := lc_split_le e x y (n - x) (m - y)
  rw [show x + (n - x) = n by omega, show y + (m - y) = m by omega] at this
  exact this

theorem opt_end (e : Nat → Nat → Bool) (n m : Nat) : Opt e n m n m := ⟨Nat.le_refl _, Nat.le_refl _, by rw [Nat.sub_self, Nat.sub_self]; simp [lc_zero_left]⟩

/-- the rest of a path, one letter of the first more -/
theorem rest_left (e : Nat → Nat → Bool) {n m x y : Nat} (hx : x + 1 ≤ n) : lc (sh e (x + 1) y) (n - (x + 1)) (m - y) ≤ lc (sh e x y) (n - x) (m - y) := by
  have := lc_split_le (sh e x y) 1 0 (n - (x + 1)) (m - y)
  rw [lc_zero_right, show 1 + (n - (x + 1)) = n - x by omega, Nat.zero_add, Nat.zero_add] at this
  have e2 : sh (sh e x y) 1 0 = sh e (x + 1) y := by funext p q; simp [sh, Nat.add_assoc]
  rw [e2] at this
  exact this
theorem rest_right (e : Nat → Nat → Bool) {n m x y : Nat} (hy : y + 1 ≤ m) : lc (sh e x (y + 1)) (n - x) (m - (y + 1)) ≤ lc (sh e x y) (n - x) (m - y) := by
  have := lc_split_le (sh e x y) 0 1 (n - x) (m - (y + 1))
  rw [lc_zero_left, show 1 + (m - (y + 1)) = m - y by omega, Nat.zero_add, Nat.zero_add] at this
  have e2 : sh (sh e x y) 0 1 = sh e x (y + 1) := by funext p q; simp [sh, Nat.add_assoc]
  rw [e2] at this
  exact this
theorem rest_diag (e : Nat → Nat → Bool) {n m x y : Nat} (hx : x + 1 ≤ n) (hy : y + 1 ≤ m) (h : e x y = true) : lc (sh e (x + 1) (y + 1)) (n - (x + 1)) (m - (y + 1)) + 1 ≤ lc (sh e x y) (n - x) (m - y) := by
  have := lc_split_le (sh e x y) 1 1 (n - (x + 1)) (m - (y + 1))
  rw [show 1 + (n - (x + 1)) = n - x by omega, show 1 + (m - (y + 1)) = m - y by omega] at this
  have e2 : sh (sh e x y) 1 1 = sh e (x + 1) (y + 1) := by funext p q; simp [sh, Nat.add_assoc]
  have e3 : lc (sh e x y) 1 1 = 1 := by
    rw [lc_succ, if_pos (by simpa [sh] using h)]
    rfl
  rw [e2, e3] at this
  omega

/-- one step back along a best path -/
theorem opt_back (e : Nat → Nat → Bool) {n m x y : Nat} (h : Opt e n m x y) (h0 : 0 < x + y) :
    (∃ x' y', x = x' + 1 ∧ y = y' + 1 ∧ e x' y' = true ∧ Opt e n m x' y' ∧ ED e x' y' = ED e x y) ∨
    (∃ x', x = x' + 1 ∧ Opt e n m x' y ∧ ED e x' y + 1 = ED e x y) ∨
    (∃ y', y = y' + 1 ∧ Opt e n m x y' ∧ ED e x y' + 1 = ED e x y) := by
  obtain ⟨hx, hy, hs⟩ := h
  have left : ∀ x', x = x' + 1 → lc e x' y = lc e x y → Opt e n m x' y ∧ ED e x' y + 1 = ED e x y := by
    rintro x' rfl hl
    have h1 := rest_left e (m := m) (y := y) hx
    have h2 := split_le e (n := n) (m := m) (x := x') (y := y) (by omega) hy
    exact ⟨⟨by omega, hy, by omega⟩, by unfold ED; omega⟩
  have right : ∀ y', y = y' + 1 → lc e x y' = lc e x y → Opt e n m x y' ∧ ED e x y' + 1 = ED e x y := by
    rintro y' rfl hl
    have h1 := rest_right e (n := n) (x := x) hy
    have h2 := split_le e (n := n) (m := m) (x := x) (y := y') hx (by omega)
    exact ⟨⟨hx, by omega, by omega⟩, by unfold ED; omega⟩
  match x, y with
  | 0, 0 => omega
  | 0, y + 1 => exact .inr (.inr ⟨y, rfl, right y rfl rfl⟩)
  | x + 1, 0 => exact .inr (.inl ⟨x, rfl, left x rfl (by rw [lc_zero_right, lc_zero_right])⟩)
  | x + 1, y + 1 =>
    have hl := lc_succ e x y
    by_cases he : e x y = true
    · rw [if_pos he] at hl
      have h1 := rest_diag e (n := n) (m := m) hx hy he
      have h2 := split_le e (n := n) (m := m) (x := x) (y := y) (by omega) (by omega)
      exact .inl ⟨x, y, rfl, rfl, he, ⟨by omega, by omega, by omega⟩, by unfold ED; omega⟩
    · rw [if_neg he] at hl
      by_cases hm : lc e (x + 1) y ≤ lc e x (y + 1)
      · exact .inr (.inl ⟨x, rfl, left x rfl (by omega)⟩)
      · exact .inr (.inr ⟨y, rfl, right y rfl (by omega)⟩)

/-- on a best path to (x, y) there is a point behind any smaller number of edits -/
theorem opt_split (e : Nat → Nat → Bool) {n m : Nat} (s : Int) (hs0 : 0 ≤ s) : ∀ (t x y : Nat), x + y = t → Opt e n m x y → s ≤ ED e x y → ∃ x' y', Opt e n m x' y' ∧ ED e x' y' = s := by
  intro t
  induction t using Nat.strongRecOn with
  | ind t ih =>
    intro x y ht ho hs
    by_cases he : s = ED e x y
    · exact ⟨x, y, ho, he.symm⟩
    · have h0 : 0 < x + y := by
        by_cases h : 0 < x + y
        · exact h
        · have e1 : x = 0 := by omega
          have e2 : y = 0 := by omega
          subst e1; subst e2
          simp [ED, lc_zero_left] at hs he
          omega
      rcases opt_back e ho h0 with ⟨x', y', rfl, rfl, _, ho', hE⟩ | ⟨x', rfl, ho', hE⟩ | ⟨y', rfl, ho', hE⟩
      · exact ih (x' + y') (by omega) x' y' rfl ho' (by omega)
      · exact ih (x' + y) (by omega) x' y rfl ho' (by omega)
      · exact ih (x + y') (by omega) x y' rfl ho' (by omega)

/-! ### what the arrays hold -/
def SndAt (e : Nat → Nat → Bool) (n m : Nat) (d k v : Int) : Prop := v = -1 ∨ ∃ x y : Nat, v = x ∧ v - k = y ∧ x ≤ n ∧ y ≤ m ∧ ED e x y ≤ d
def CmpAt (e : Nat → Nat → Bool) (n m : Nat) (d k v : Int) : Prop := ∀ x y : Nat, Opt e n m x y → ED e x y = d → (x : Int) - y = k → (x : Int) ≤ v
def Ok (e : Nat → Nat → Bool) (n m : Nat) (d : Int) (V : Int → Int) : Prop := ∀ k, -d ≤ k → k ≤ d → (k - d) % 2 = 0 → SndAt e n m d k (V k) ∧ CmpAt e n m d k (V k)
def Stuck (e : Nat → Nat → Bool) (n m : Nat) (k v : Int) : Prop := ∀ x y : Nat, v = x → v - k = y → x < n → y < m → e x y = false

theorem at_sound {e : Nat → Nat → Bool} {n m : Nat} {d k : Int} {V : Int → Int} (hd : 0 ≤ d) (h1 : -d ≤ k) (h2 : k ≤ d) (par : (k - d) % 2 = 0) (hok : 0 < d → Ok e n m (d - 1) V)
    (h0 : 0 ≤ atF n m V k d) : SndAt e n m d k (atF n m V k d) := by
  by_cases hz : d = 0
  · subst hz
    have : k = 0 := by omega
    subst this
    exact .inr ⟨0, 0, by simp [atF], by simp [atF], Nat.zero_le _, Nat.zero_le _, by simp [ED, lc_zero_left]⟩
  · have hok := hok (by omega)
    have key : atF n m V k d = -1 ∨ (-d < k ∧ 0 ≤ V (k - 1) ∧ V (k - 1) < n ∧ atF n m V k d = V (k - 1) + 1) ∨ (k < d ∧ 0 ≤ V (k + 1) ∧ V (k + 1) - k ≤ m ∧ atF n m V k d = V (k + 1)) := by
      simp only [atF]
      rw [if_neg hz]
      repeat' split
      all_goals omega
    rcases key with h | ⟨a1, a2, a3, a4⟩ | ⟨a1, a2, a3, a4⟩
    · omega
    · rcases (hok (k - 1) (by omega) (by omega) (by omega)).1 with h | ⟨x, y, e1, e2, hx, hy, hE⟩
      · omega
      · have hm := lc_mono e (show x ≤ x + 1 by omega) (Nat.le_refl y)
        exact .inr ⟨x + 1, y, by omega, by omega, by omega, hy, by unfold ED at *; omega⟩
    · rcases (hok (k + 1) (by omega) (by omega) (by omega)).1 with h | ⟨x, y, e1, e2, hx, hy, hE⟩
      · omega
      · have hm := lc_mono e (Nat.le_refl x) (show y ≤ y + 1 by omega)
        exact .inr ⟨x, y + 1, by omega, by omega, hx, by omega, by unfold ED at *; omega⟩

theorem slide_sound {e : Nat → Nat → Bool} {n m : Nat} {d k : Int} {x y : Nat} (h : SndAt e n m d k (x : Int)) (e2 : (x : Int) - k = y) (hx : x < n) (hy : y < m) (he : e x y = true) : SndAt e n m d k ((x : Int) + 1) := by
  rcases h with h | ⟨x', y', e1', e2', hx', hy', hE⟩
  · omega
  · have ex : x' = x := by omega
    have ey : y' = y := by omega
    subst ex; subst ey
    have := lc_succ e x' y'
    rw [if_pos he] at this
    exact .inr ⟨x' + 1, y' + 1, by omega, by omega, by omega, by omega, by unfold ED at *; omega⟩

theorem step {e : Nat → Nat → Bool} {n m : Nat} {d k v : Int} {V : Int → Int} (hd : 0 ≤ d) (h1 : -d ≤ k) (h2 : k ≤ d) (par : (k - d) % 2 = 0) (hok : 0 < d → Ok e n m (d - 1) V)
    (hs : SndAt e n m d k v) (hle : atF n m V k d ≤ v) (hst : Stuck e n m k v) : SndAt e n m d k v ∧ CmpAt e n m d k v := by
  refine ⟨hs, ?_⟩
  intro x
  induction x with
  | zero =>
    intro y ho hE hk
    -- on the left border: only steps down lead here
    by_cases hz : d = 0
    · subst hz
      have : atF n m V k 0 = 0 := by simp [atF]
      omega
    · have hy0 : 0 < y := by simp [ED, lc_zero_left] at hE; omega
      obtain ⟨y', rfl⟩ : ∃ y', y = y' + 1 := ⟨y - 1, by omega⟩
      rcases opt_back e ho (by omega) with ⟨x', _, hx', _⟩ | ⟨x', hx', _⟩ | ⟨y2, ey, ho', hE'⟩
      · omega
      · omega
      · have ey2 : y2 = y' := by omega
        subst ey2
        exact down hz ho hE hk ho' (by omega)
  | succ x ih =>
    intro y ho hE hk
    rcases opt_back e ho (by omega) with ⟨x', y', ex, rfl, he, ho', hE'⟩ | ⟨x', ex, ho', hE'⟩ | ⟨y', rfl, ho', hE'⟩
    · have : x' = x := by omega
      subst this
      have hv := ih y' ho' (by omega) (by omega)
      by_cases hlt : (x' : Int) + 1 ≤ v
      · omega
      · have ev : v = (x' : Int) := by omega
        have := hst x' y' ev (by omega) (by have := ho.1; omega) (by have := ho.2.1; omega)
        rw [he] at this
        exact absurd this (by decide)
    · have : x' = x := by omega
      subst this
      have hd0 : d ≠ 0 := by have := ED_abs e x' y; omega
      have hok := hok (by omega)
      have habs := ED_abs e x' y
      have hc := hok (k - 1) (by omega) (by omega) (by omega)
      have hcx := hc.2 x' y ho' (by omega) (by omega)
      rcases hc.1 with h | ⟨cx, cy, e1, e2, hcn, hcm, hcE⟩
      · omega
      · by_cases hlt : V (k - 1) < n
        · have : V (k - 1) + 1 ≤ atF n m V k d := by
            simp only [atF]
            rw [if_neg hd0]
            repeat' split
            all_goals omega
          omega
        · -- the neighbour has run into the right border: then (x, y) lies on no best path
          exfalso
          have ecx : cx = n := by omega
          subst ecx
          have hW := lc_mono e (Nat.le_refl cx) hcm
          have hS := lc_le_left (sh e (x' + 1) y) (cx - (x' + 1)) (m - y)
          have := ho.2.2
          have := ho.1
          unfold ED at *
          omega
    · have hd0 : d ≠ 0 := by have := ED_abs e (x + 1) y'; omega
      exact down hd0 ho hE hk ho' (by omega)
where
  down {x y : Nat} (hz : d ≠ 0) (ho : Opt e n m x (y + 1)) (hE : ED e x (y + 1) = d) (hk : (x : Int) - ((y + 1 : Nat) : Int) = k) (ho' : Opt e n m x y) (hE' : ED e x y = d - 1) : (x : Int) ≤ v := by
    have hok := hok (by omega)
    have habs := ED_abs e x y
    have hc := hok (k + 1) (by omega) (by omega) (by omega)
    have hcx := hc.2 x y ho' hE' (by omega)
    rcases hc.1 with h | ⟨cx, cy, e1, e2, hcn, hcm, hcE⟩
    · omega
    · by_cases hlt : V (k + 1) - k ≤ m
      · have : V (k + 1) ≤ atF n m V k d := by
          simp only [atF]
          rw [if_neg hz]
          repeat' split
          all_goals omega
        omega
      · exfalso
        have ecy : cy = m := by omega
        subst ecy
        have hW := lc_mono e hcn (Nat.le_refl cy)
        have hS := lc_le_right (sh e x (y + 1)) (n - x) (cy - (y + 1))
        have := ho.2.2
        have := ho.2.1
        unfold ED at *
        omega

/-! ### the two searches together -/
theorem sh_rev (e : Nat → Nat → Bool) {n m x y : Nat} (hx : x ≤ n) (hy : y ≤ m) : sh (rev e n m) (n - x) (m - y) = rev e x y := by
  funext p q
  unfold sh rev
  rw [show n - 1 - (n - x + p) = x - 1 - p by omega, show m - 1 - (m - y + q) = y - 1 - q by omega]

theorem opt_rev (e : Nat → Nat → Bool) {n m x y : Nat} (h : Opt e n m x y) : Opt (rev e n m) n m (n - x) (m - y) := by
  obtain ⟨hx, hy, hs⟩ := h
  refine ⟨by omega, by omega, ?_⟩
  rw [lc_rev_whole, sh_rev e hx hy, show n - (n - x) = x by omega, show m - (m - y) = y by omega, lc_rev_whole, lc_rev e (by omega) (by omega), show n - (n - x) = x by omega, show m - (m - y) = y by omega]
  omega

def whole (e : Nat → Nat → Bool) (n m : Nat) : Int := ED e n m

theorem ED_rev (e : Nat → Nat → Bool) {n m x y : Nat} (hx : x ≤ n) (hy : y ≤ m) : ED (rev e n m) (n - x) (m - y) = ((n - x : Nat) : Int) + ((m - y : Nat) : Int) - 2 * (lc (sh e x y) (n - x) (m - y) : Int) := by
  unfold ED
  rw [lc_rev e (by omega) (by omega), show n - (n - x) = x by omega, show m - (m - y) = y by omega]

/-- a point that few edits lead to and few lead on from -/
theorem meet_opt (e : Nat → Nat → Bool) {n m x y : Nat} {s t : Int} (hx : x ≤ n) (hy : y ≤ m) (h1 : ED e x y ≤ s) (h2 : ED (rev e n m) (n - x) (m - y) ≤ t) (h : s + t ≤ ED e n m) : Opt e n m x y := by
  refine ⟨hx, hy, ?_⟩
  have := split_le e hx hy
  rw [ED_rev e hx hy] at h2
  unfold ED at *
  omega

/-- a best path, cut behind s edits -/
theorem cut_opt (e : Nat → Nat → Bool) (n m : Nat) (s : Int) (h0 : 0 ≤ s) (h : s ≤ ED e n m) : ∃ x y, Opt e n m x y ∧ ED e x y = s ∧ ED (rev e n m) (n - x) (m - y) = ED e n m - s := by
  obtain ⟨x, y, ho, hE⟩ := opt_split e s h0 (n + m) n m rfl (opt_end e n m) h
  refine ⟨x, y, ho, hE, ?_⟩
  rw [ED_rev e ho.1 ho.2.1]
  have := ho.2.2
  have := ho.1
  have := ho.2.1
  unfold ED at *
  omega

theorem ED_par (e : Nat → Nat → Bool) (n m : Nat) : (ED e n m - ((n : Int) - m)) % 2 = 0 := by unfold ED; omega
theorem ED_nonneg (e : Nat → Nat → Bool) (n m : Nat) : 0 ≤ ED e n m := by have := lc_le_left e n m; have := lc_le_right e n m; unfold ED; omega
theorem ED_le (e : Nat → Nat → Bool) (n m : Nat) : ED e n m ≤ (n : Int) + m := by unfold ED; omega

/-- the two searches meet at (x, y): on the forward one's diagonal k at v, on the backward one's at u -/
theorem met {e : Nat → Nat → Bool} {n m : Nat} {s t k v u : Int} (hf : SndAt e n m s k v) (hb : SndAt (rev e n m) n m t ((n : Int) - m - k) u) (hv : 0 ≤ v) (hu : 0 ≤ u) (hmeet : (n : Int) ≤ v + u) (hD : s + t ≤ ED e n m) :
    ∃ x y : Nat, v = x ∧ v - k = y ∧ Opt e n m x y := by
  rcases hf with h | ⟨x, y, e1, e2, hx, hy, hE⟩
  · omega
  · rcases hb with h | ⟨x', y', e1', e2', hx', hy', hE'⟩
    · omega
    · refine ⟨x, y, e1, e2, meet_opt e hx hy hE ?_ hD⟩
      have hd := ED_diag (rev e n m) (n - x) (m - y) (x' - (n - x))
      rw [show n - x + (x' - (n - x)) = x' by omega, show m - y + (x' - (n - x)) = y' by omega] at hd
      omega
theorem met' {e : Nat → Nat → Bool} {n m : Nat} {s t k v u : Int} (hf : SndAt e n m s ((n : Int) - m - k) v) (hb : SndAt (rev e n m) n m t k u) (hv : 0 ≤ v) (hu : 0 ≤ u) (hmeet : (n : Int) ≤ u + v) (hD : s + t ≤ ED e n m) :
    ∃ x y : Nat, x ≤ n ∧ y ≤ m ∧ u = x ∧ u - k = y ∧ Opt e n m (n - x) (m - y) := by
  rcases hf with h | ⟨x', y', e1', e2', hx', hy', hE'⟩
  · omega
  · rcases hb with h | ⟨x, y, e1, e2, hx, hy, hE⟩
    · omega
    · refine ⟨x, y, hx, hy, e1, e2, meet_opt (s := s) (t := t) e (by omega) (by omega) ?_ ?_ hD⟩
      · have hd := ED_diag e (n - x) (m - y) (x' - (n - x))
        rw [show n - x + (x' - (n - x)) = x' by omega, show m - y + (x' - (n - x)) = y' by omega] at hd
        omega
      · rw [show n - (n - x) = x by omega, show m - (m - y) = y by omega]
        exact hE

/-- an odd whole: no meeting in the forward step d means more than 2d - 1 edits -/
theorem not_met_odd {e : Nat → Nat → Bool} {n m : Nat} {d : Int} {V U : Int → Int} (hd : 0 ≤ d) (hV : Ok e n m d V) (hU : 0 < d → Ok (rev e n m) n m (d - 1) U) (hodd : ((n : Int) - m) % 2 ≠ 0) (hD : 2 * d - 1 ≤ ED e n m)
    (hno : ∀ k, -d ≤ k → k ≤ d → (k - d) % 2 = 0 → 0 ≤ V k → -(d - 1) ≤ (n : Int) - m - k → (n : Int) - m - k ≤ d - 1 → V k + U ((n : Int) - m - k) < n) : 2 * (d + 1) - 1 ≤ ED e n m := by
  have par := ED_par e n m
  by_cases h : ED e n m = 2 * d - 1
  · exfalso
    have h0 := ED_nonneg e n m
    obtain ⟨x, y, ho, h1, h2⟩ := cut_opt e n m d hd (by omega)
    have a1 := ED_abs e x y
    have a2 := ED_abs (rev e n m) (n - x) (m - y)
    have hx := ho.1
    have hy := ho.2.1
    have pxy : (((x : Int) - y) - d) % 2 = 0 := by unfold ED at h1; omega
    have hv := (hV ((x : Int) - y) (by omega) (by omega) pxy).2 x y ho h1 rfl
    have hu := (hU (by omega) ((n : Int) - m - (x - y)) (by omega) (by omega) (by omega)).2 (n - x) (m - y) (opt_rev e ho) (by omega) (by omega)
    have := hno ((x : Int) - y) (by omega) (by omega) pxy (by omega) (by omega) (by omega)
    omega
  · omega

theorem not_met_even {e : Nat → Nat → Bool} {n m : Nat} {d : Int} {V U : Int → Int} (hd : 0 ≤ d) (hV : Ok e n m d V) (hU : Ok (rev e n m) n m d U) (heven : ((n : Int) - m) % 2 = 0) (hD : 2 * d ≤ ED e n m)
    (hno : ∀ k, -d ≤ k → k ≤ d → (k - d) % 2 = 0 → 0 ≤ U k → -d ≤ (n : Int) - m - k → (n : Int) - m - k ≤ d → U k + V ((n : Int) - m - k) < n) : 2 * (d + 1) ≤ ED e n m := by
  have par := ED_par e n m
  by_cases h : ED e n m = 2 * d
  · exfalso
    have h0 := ED_nonneg e n m
    obtain ⟨x, y, ho, h1, h2⟩ := cut_opt e n m d hd (by omega)
    have a1 := ED_abs e x y
    have a2 := ED_abs (rev e n m) (n - x) (m - y)
    have hx := ho.1
    have hy := ho.2.1
    have pxy : (((x : Int) - y) - d) % 2 = 0 := by unfold ED at h1; omega
    have hv := (hV ((x : Int) - y) (by omega) (by omega) pxy).2 x y ho h1 rfl
    have pk : (((n : Int) - m - (x - y)) - d) % 2 = 0 := by omega
    have hu := (hU ((n : Int) - m - (x - y)) (by omega) (by omega) pk).2 (n - x) (m - y) (opt_rev e ho) (by omega) (by omega)
    have := hno ((n : Int) - m - (x - y)) (by omega) (by omega) pk (by omega) (by omega) (by omega)
    rw [show (n : Int) - m - ((n : Int) - m - (x - y)) = (x : Int) - y by omega] at this
    omega
  · omega
end Go.Proofs.Ybulkkyu.Lcs
