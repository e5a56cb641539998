/- What skipValue and its model come to, as plain mathematics. No Go in sight. -/
namespace Go.Proofs.Ybulklee.Js

/-- the bytes at which a scalar ends -/
def ends (c : Int) : Bool := c == 44 || c == 58 || c == 125 || c == 93 || c == 123 || c == 91 || c == 34 || c == 32 || c == 9 || c == 10 || c == 13

/-- where a scalar ends, m bytes being left -/
def scal (R : Nat → Int) : Nat → Nat → Nat
  | 0, i => i
  | m + 1, i => if ends (R i) = true then i else scal R m (i + 1)
def sc (R : Nat → Int) (n i : Nat) : Nat := scal R (n - i) i

/-- just past a string's closing quote, or -1; esc: the next byte is escaped -/
def se (R : Nat → Int) : Nat → Bool → Nat → Int
  | 0, _, _ => -1
  | m + 1, true, p => se R m false (p + 1)
  | m + 1, false, p => if R p = 92 then se R m true (p + 1) else if R p = 34 then ((p + 1 : Nat) : Int) else se R m false (p + 1)
def sE (R : Nat → Int) (n : Nat) (esc : Bool) (p : Nat) : Int := se R (n - p) esc p

/-- the machine: depth d; s: inside a string; e: behind a backslash -/
def run (R : Nat → Int) : Nat → Int → Bool → Bool → Nat → Int
  | 0, _, _, _, _ => -1
  | m + 1, d, true, true, j => run R m d true false (j + 1)
  | m + 1, d, true, false, j =>
    if R j = 92 then run R m d true true (j + 1)
    else if R j = 34 then (if d = 0 then ((j + 1 : Nat) : Int) else run R m d false false (j + 1))
    else run R m d true false (j + 1)
  | m + 1, d, false, e, j =>
    if R j = 34 then run R m d true e (j + 1)
    else if R j = 123 ∨ R j = 91 then run R m (d + 1) false e (j + 1)
    else if R j = 125 ∨ R j = 93 then (if d - 1 = 0 then ((j + 1 : Nat) : Int) else run R m (d - 1) false e (j + 1))
    else run R m d false e (j + 1)
def rn (R : Nat → Int) (n : Nat) (d : Int) (s e : Bool) (j : Nat) : Int := run R (n - j) d s e j

/-- what skipValue answers -/
def val (R : Nat → Int) (n i : Nat) : Int :=
  if n ≤ i then -1
  else if R i = 34 ∨ R i = 123 ∨ R i = 91 then rn R n 0 false false i
  else if sc R n i = i then -1 else (sc R n i : Int)

variable {R : Nat → Int} {n i j p : Nat} {d : Int}

theorem sc_end (h : n ≤ i) : sc R n i = i := by
  unfold sc
  rw [show n - i = 0 by omega]
  rfl
theorem sc_step (h : i < n) : sc R n i = if ends (R i) = true then i else sc R n (i + 1) := by
  unfold sc
  rw [show n - i = (n - (i + 1)) + 1 by omega]
  rfl
theorem sE_end {e : Bool} (h : n ≤ p) : sE R n e p = -1 := by
  unfold sE
  rw [show n - p = 0 by omega]
  rfl
theorem sE_esc (h : p < n) : sE R n true p = sE R n false (p + 1) := by
  unfold sE
  rw [show n - p = (n - (p + 1)) + 1 by omega]
  rfl
theorem sE_step (h : p < n) : sE R n false p = if R p = 92 then sE R n true (p + 1) else if R p = 34 then ((p + 1 : Nat) : Int) else sE R n false (p + 1) := by
  unfold sE
  rw [show n - p = (n - (p + 1)) + 1 by omega]
  rfl
/-- a backslash takes two bytes -/
theorem sE_back (h : p < n) (h1 : R p = 92) : sE R n false p = sE R n false (p + 2) := by
  rw [sE_step h, if_pos h1]
  by_cases h2 : p + 1 < n
  · exact sE_esc h2
  · rw [sE_end (by omega), sE_end (by omega)]

theorem rn_end {s e : Bool} (h : n ≤ j) : rn R n d s e j = -1 := by
  unfold rn
  rw [show n - j = 0 by omega]
  cases s <;> cases e <;> rfl
theorem rn_esc (h : j < n) : rn R n d true true j = rn R n d true false (j + 1) := by
  unfold rn
  rw [show n - j = (n - (j + 1)) + 1 by omega]
  rfl
theorem rn_str (h : j < n) : rn R n d true false j =
    if R j = 92 then rn R n d true true (j + 1)
    else if R j = 34 then (if d = 0 then ((j + 1 : Nat) : Int) else rn R n d false false (j + 1))
    else rn R n d true false (j + 1) := by
  unfold rn
  rw [show n - j = (n - (j + 1)) + 1 by omega]
  rfl
theorem rn_out {e : Bool} (h : j < n) : rn R n d false e j =
    if R j = 34 then rn R n d true e (j + 1)
    else if R j = 123 ∨ R j = 91 then rn R n (d + 1) false e (j + 1)
    else if R j = 125 ∨ R j = 93 then (if d - 1 = 0 then ((j + 1 : Nat) : Int) else rn R n (d - 1) false e (j + 1))
    else rn R n d false e (j + 1) := by
  unfold rn
  rw [show n - j = (n - (j + 1)) + 1 by omega]
  cases e <;> rfl

/-- the machine inside a string runs to the string's end -/
theorem rn_sE (R : Nat → Int) (n : Nat) (d : Int) : ∀ (m p : Nat) (e : Bool), n - p = m → rn R n d true e p = if sE R n e p = -1 then -1 else if d = 0 then sE R n e p else rn R n d false false (sE R n e p).toNat := by
  intro m
  induction m with
  | zero =>
    intro p e h
    rw [rn_end (by omega), sE_end (by omega), if_pos rfl]
  | succ m ih =>
    intro p e h
    have hp : p < n := by omega
    cases e with
    | true => rw [rn_esc hp, sE_esc hp]; exact ih (p + 1) false (by omega)
    | false =>
      rw [rn_str hp, sE_step hp]
      by_cases h1 : R p = 92
      · rw [if_pos h1, if_pos h1]; exact ih (p + 1) true (by omega)
      · rw [if_neg h1, if_neg h1]
        by_cases h2 : R p = 34
        · rw [if_pos h2, if_pos h2, if_neg (show ¬ (((p + 1 : Nat) : Int) = -1) by omega), Int.toNat_natCast]
        · rw [if_neg h2, if_neg h2]; exact ih (p + 1) false (by omega)

theorem sE_range (R : Nat → Int) (n : Nat) : ∀ (m p : Nat) (e : Bool), n - p = m → sE R n e p = -1 ∨ ((p : Int) < sE R n e p ∧ sE R n e p ≤ n) := by
  intro m
  induction m with
  | zero => intro p e h; exact .inl (sE_end (by omega))
  | succ m ih =>
    intro p e h
    have hp : p < n := by omega
    have key : ∀ e', sE R n e' (p + 1) = -1 ∨ ((p : Int) < sE R n e' (p + 1) ∧ sE R n e' (p + 1) ≤ n) := fun e' => by
      rcases ih (p + 1) e' (by omega) with h | h
      · exact .inl h
      · exact .inr (by omega)
    cases e with
    | true => rw [sE_esc hp]; exact key _
    | false =>
      rw [sE_step hp]
      split
      · exact key _
      · split
        · exact .inr (by omega)
        · exact key _

theorem rn_range (R : Nat → Int) (n : Nat) : ∀ (m j : Nat) (d : Int) (s e : Bool), n - j = m → rn R n d s e j = -1 ∨ ((j : Int) < rn R n d s e j ∧ rn R n d s e j ≤ n) := by
  intro m
  induction m with
  | zero => intro j d s e h; exact .inl (rn_end (by omega))
  | succ m ih =>
    intro j d s e h
    have hj : j < n := by omega
    have key : ∀ d' s' e', rn R n d' s' e' (j + 1) = -1 ∨ ((j : Int) < rn R n d' s' e' (j + 1) ∧ rn R n d' s' e' (j + 1) ≤ n) := fun d' s' e' => by
      rcases ih (j + 1) d' s' e' (by omega) with h | h
      · exact .inl h
      · exact .inr (by omega)
    cases s with
    | true =>
      cases e with
      | true => rw [rn_esc hj]; exact key _ _ _
      | false =>
        rw [rn_str hj]
        split
        · exact key _ _ _
        · split
          · split
            · exact .inr (by omega)
            · exact key _ _ _
          · exact key _ _ _
    | false =>
      rw [rn_out hj]
      split
      · exact key _ _ _
      · split
        · exact key _ _ _
        · split
          · split
            · exact .inr (by omega)
            · exact key _ _ _
          · exact key _ _ _

theorem sc_range (R : Nat → Int) (n : Nat) : ∀ (m i : Nat), n - i = m → i ≤ n → i ≤ sc R n i ∧ sc R n i ≤ n ∧ (sc R n i < n → ends (R (sc R n i)) = true) := by
  intro m
  induction m with
  | zero => intro i h hi; rw [sc_end (by omega)]; exact ⟨Nat.le_refl _, hi, fun h' => by omega⟩
  | succ m ih =>
    intro i h hi
    have hin : i < n := by omega
    rw [sc_step hin]
    split
    · exact ⟨Nat.le_refl _, hi, fun _ => by assumption⟩
    · obtain ⟨h1, h2, h3⟩ := ih (i + 1) (by omega) (by omega)
      exact ⟨by omega, h2, h3⟩

theorem val_range (R : Nat → Int) (n i : Nat) : val R n i = -1 ∨ (i < n ∧ (i : Int) < val R n i ∧ val R n i ≤ n) := by
  unfold val
  split
  · exact .inl rfl
  · split
    · rcases rn_range R n (n - i) i 0 false false rfl with h | h
      · exact .inl h
      · exact .inr ⟨by omega, h⟩
    · split
      · exact .inl rfl
      · have := sc_range R n (n - i) i rfl (by omega)
        exact .inr (by omega)
end Go.Proofs.Ybulklee.Js
