namespace Go.Proofs.Ybulkkyu.Lcs

/-- one row of the table of longest common subsequences -/
def nextRow (c : Nat → Bool) (r : Nat → Nat) : Nat → Nat
  | 0 => 0
  | j + 1 => if c j then r j + 1 else max (r (j + 1)) (nextRow c r j)

/-- the length of a longest common subsequence of the first i and the first j letters, 'e p q' telling whether letter p is letter q -/
def lc (e : Nat → Nat → Bool) : Nat → Nat → Nat
  | 0 => fun _ => 0
  | i + 1 => nextRow (e i) (lc e i)

theorem lc_zero_left (e : Nat → Nat → Bool) (j : Nat) : lc e 0 j = 0 := rfl
theorem lc_zero_right (e : Nat → Nat → Bool) (i : Nat) : lc e i 0 = 0 := by cases i <;> rfl
theorem lc_succ (e : Nat → Nat → Bool) (i j : Nat) : lc e (i + 1) (j + 1) = if e i j then lc e i j + 1 else max (lc e i (j + 1)) (lc e (i + 1) j) := rfl

def Up (p q : Nat × Nat) : Prop := p.1 < q.1 ∧ p.2 < q.2
/-- a chain of matches in the box from (i, j) to (i', j') -/
def Chain (e : Nat → Nat → Bool) (i j i' j' : Nat) (l : List (Nat × Nat)) : Prop :=
  l.Pairwise Up ∧ ∀ p ∈ l, i ≤ p.1 ∧ p.1 < i' ∧ j ≤ p.2 ∧ p.2 < j' ∧ e p.1 p.2 = true

theorem chain_nil (e : Nat → Nat → Bool) (i j i' j' : Nat) : Chain e i j i' j' [] := ⟨.nil, by simp⟩

theorem chain_snoc {e : Nat → Nat → Bool} {i j i' j' : Nat} {l : List (Nat × Nat)} {p q : Nat} : Chain e i j i' j' (l ++ [(p, q)]) ↔ Chain e i j p q l ∧ i ≤ p ∧ p < i' ∧ j ≤ q ∧ q < j' ∧ e p q = true := by
  unfold Chain
  rw [List.pairwise_append]
  constructor
  · rintro ⟨⟨h1, _, h3⟩, h4⟩
    have hp := h4 (p, q) (by simp)
    refine ⟨⟨h1, fun x hx => ?_⟩, hp⟩
    have hx4 := h4 x (by simp [hx])
    have hx3 := h3 x hx (p, q) (by simp)
    unfold Up at hx3
    exact ⟨hx4.1, hx3.1, hx4.2.2.1, hx3.2, hx4.2.2.2.2⟩
  · rintro ⟨⟨h1, h2⟩, h3⟩
    refine ⟨⟨h1, by simp, ?_⟩, ?_⟩
    · intro x hx y hy
      simp at hy
      subst hy
      have := h2 x hx
      exact ⟨this.2.1, this.2.2.2.1⟩
    · intro x hx
      rw [List.mem_append] at hx
      rcases hx with hx | hx
      · have := h2 x hx
        exact ⟨this.1, by omega, this.2.2.1, by omega, this.2.2.2.2⟩
      · simp at hx
        subst hx
        exact h3

theorem chain_mono {e : Nat → Nat → Bool} {i j i' j' a b a' b' : Nat} {l : List (Nat × Nat)} (h : Chain e i j i' j' l) (h1 : a ≤ i) (h2 : b ≤ j) (h3 : i' ≤ a') (h4 : j' ≤ b') : Chain e a b a' b' l :=
  ⟨h.1, fun p hp => by have := h.2 p hp; exact ⟨by omega, by omega, by omega, by omega, this.2.2.2.2⟩⟩

theorem lc_made (e : Nat → Nat → Bool) (i j : Nat) : ∃ l, Chain e 0 0 i j l ∧ l.length = lc e i j := by
  induction i generalizing j with
  | zero => exact ⟨[], chain_nil .., rfl⟩
  | succ i ih =>
    induction j with
    | zero => exact ⟨[], chain_nil .., rfl⟩
    | succ j jh =>
      rw [lc_succ]
      by_cases h : e i j = true
      · obtain ⟨l, h1, h2⟩ := ih j
        refine ⟨l ++ [(i, j)], chain_snoc.2 ⟨h1, by omega, by omega, by omega, by omega, h⟩, by simp [h, h2]⟩
      · obtain ⟨l1, h1, h2⟩ := ih (j + 1)
        obtain ⟨l2, h3, h4⟩ := jh
        rw [if_neg h]
        by_cases hm : lc e (i + 1) j ≤ lc e i (j + 1)
        · exact ⟨l1, chain_mono h1 (by omega) (by omega) (by omega) (by omega), by rw [h2]; omega⟩
        · exact ⟨l2, chain_mono h3 (by omega) (by omega) (by omega) (by omega), by rw [h4]; omega⟩

theorem snoc_cases (l : List (Nat × Nat)) : l = [] ∨ ∃ l' p q, l = l' ++ [(p, q)] := by
  rcases List.eq_nil_or_concat l with h | ⟨l', b, h⟩
  · exact .inl h
  · exact .inr ⟨l', b.1, b.2, by simpa using h⟩

theorem lc_bound {e : Nat → Nat → Bool} {i j : Nat} {l : List (Nat × Nat)} (h : Chain e 0 0 i j l) : l.length ≤ lc e i j := by
  induction i generalizing j l with
  | zero =>
    rcases snoc_cases l with rfl | ⟨l', p, q, rfl⟩
    · simp
    · have := (chain_snoc.1 h).2; omega
  | succ i ih =>
    induction j generalizing l with
    | zero =>
      rcases snoc_cases l with rfl | ⟨l', p, q, rfl⟩
      · simp
      · have := (chain_snoc.1 h).2; omega
    | succ j jh =>
      rcases snoc_cases l with rfl | ⟨l', p, q, rfl⟩
      · simp
      · have hs := chain_snoc.1 h
        rw [lc_succ]
        by_cases he : e i j = true
        · rw [if_pos he]
          have := ih (chain_mono hs.1 (Nat.le_refl _) (Nat.le_refl _) (show p ≤ i by omega) (show q ≤ j by omega))
          simp; omega
        · rw [if_neg he]
          by_cases hp : p < i
          · have := ih (chain_snoc.2 ⟨hs.1, hs.2.1, hp, hs.2.2.2.1, hs.2.2.2.2.1, hs.2.2.2.2.2⟩)
            omega
          · by_cases hq : q < j
            · have := jh (chain_snoc.2 ⟨hs.1, hs.2.1, hs.2.2.1, hs.2.2.2.1, hq, hs.2.2.2.2.2⟩)
              omega
            · have e1 : p = i := by omega
              have e2 : q = j := by omega
              subst e1; subst e2
              exact absurd hs.2.2.2.2.2 he

theorem lc_mono (e : Nat → Nat → Bool) {i j i' j' : Nat} (h1 : i ≤ i') (h2 : j ≤ j') : lc e i j ≤ lc e i' j' := by
  obtain ⟨l, hl, hn⟩ := lc_made e i j
  rw [← hn]
  exact lc_bound (chain_mono hl (Nat.le_refl _) (Nat.le_refl _) h1 h2)

theorem lc_diag (e : Nat → Nat → Bool) (i j : Nat) : lc e (i + 1) (j + 1) ≤ lc e i j + 1 := by
  obtain ⟨l, hl, hn⟩ := lc_made e (i + 1) (j + 1)
  rw [← hn]
  rcases snoc_cases l with rfl | ⟨l', p, q, rfl⟩
  · simp
  · have hs := chain_snoc.1 hl
    have := lc_bound (chain_mono hs.1 (Nat.le_refl _) (Nat.le_refl _) (show p ≤ i by omega) (show q ≤ j by omega))
    simp; omega

theorem lc_le_left (e : Nat → Nat → Bool) (i j : Nat) : lc e i j ≤ i := by
  induction i generalizing j with
  | zero => exact Nat.le_refl _
  | succ i ih =>
    cases j with
    | zero => rw [lc_zero_right]; omega
    | succ j => have := lc_diag e i j; have := ih j; omega
theorem lc_le_right (e : Nat → Nat → Bool) (i j : Nat) : lc e i j ≤ j := by
  induction j generalizing i with
  | zero => rw [lc_zero_right]; omega
  | succ j ih =>
    cases i with
    | zero => exact Nat.zero_le _
    | succ i => have := lc_diag e i j; have := ih i; omega

/-- the box's own length: from (x, y) on, i and j letters -/
def sh (e : Nat → Nat → Bool) (x y : Nat) : Nat → Nat → Bool := fun p q => e (x + p) (y + q)

theorem chain_sh {e : Nat → Nat → Bool} {x y i j : Nat} {l : List (Nat × Nat)} (h : Chain (sh e x y) 0 0 i j l) : Chain e x y (x + i) (y + j) (l.map fun p => (x + p.1, y + p.2)) := by
  refine ⟨?_, ?_⟩
  · rw [List.pairwise_map]
    refine List.Pairwise.imp_of_mem ?_ h.1
    intro a b _ _ hab
    unfold Up at *
    exact ⟨by simpa using hab.1, by simpa using hab.2⟩
  · intro p hp
    obtain ⟨q, hq, rfl⟩ := List.mem_map.1 hp
    have := h.2 q hq
    exact ⟨by simp, by simp; omega, by simp, by simp; omega, this.2.2.2.2⟩

theorem sh_chain {e : Nat → Nat → Bool} {x y i j : Nat} {l : List (Nat × Nat)} (h : Chain e x y (x + i) (y + j) l) : Chain (sh e x y) 0 0 i j (l.map fun p => (p.1 - x, p.2 - y)) := by
  refine ⟨?_, ?_⟩
  · rw [List.pairwise_map]
    refine List.Pairwise.imp_of_mem ?_ h.1
    intro a b ha hb hab
    have h1 := h.2 a ha
    have h2 := h.2 b hb
    unfold Up at *
    exact ⟨by simp; omega, by simp; omega⟩
  · intro p hp
    obtain ⟨q, hq, rfl⟩ := List.mem_map.1 hp
    have := h.2 q hq
    refine ⟨Nat.zero_le _, by simp; omega, Nat.zero_le _, by simp; omega, ?_⟩
    unfold sh
    simp only
    rw [show x + (q.1 - x) = q.1 by omega, show y + (q.2 - y) = q.2 by omega]
    exact this.2.2.2.2

/-- two halves never hold more than the whole -/
theorem lc_split_le (e : Nat → Nat → Bool) (x y i j : Nat) : lc e x y + lc (sh e x y) i j ≤ lc e (x + i) (y + j) := by
  obtain ⟨l1, h1, n1⟩ := lc_made e x y
  obtain ⟨l2, h2, n2⟩ := lc_made (sh e x y) i j
  have h2' := chain_sh h2
  have hc : Chain e 0 0 (x + i) (y + j) (l1 ++ l2.map fun p => (x + p.1, y + p.2)) := by
    refine ⟨List.pairwise_append.2 ⟨h1.1, h2'.1, fun a ha b hb => ?_⟩, fun p hp => ?_⟩
    · have ha := h1.2 a ha
      have hb := h2'.2 b hb
      exact ⟨by omega, by omega⟩
    · rcases List.mem_append.1 hp with hp | hp
      · have := h1.2 p hp
        exact ⟨by omega, by omega, by omega, by omega, this.2.2.2.2⟩
      · have := h2'.2 p hp
        exact ⟨by omega, by omega, by omega, by omega, this.2.2.2.2⟩
  have := lc_bound hc
  simp at this
  omega

/-- read from the end -/
def rev (e : Nat → Nat → Bool) (n m : Nat) : Nat → Nat → Bool := fun p q => e (n - 1 - p) (m - 1 - q)

theorem chain_rev {e : Nat → Nat → Bool} {n m i j : Nat} {l : List (Nat × Nat)} (hi : i ≤ n) (hj : j ≤ m) (h : Chain (rev e n m) 0 0 i j l) : Chain e (n - i) (m - j) n m (l.reverse.map fun p => (n - 1 - p.1, m - 1 - p.2)) := by
  refine ⟨?_, ?_⟩
  · rw [List.pairwise_map, List.pairwise_reverse]
    refine List.Pairwise.imp_of_mem ?_ h.1
    intro a b ha hb hab
    have h1 := h.2 a ha
    have h2 := h.2 b hb
    unfold Up at *
    exact ⟨by simp; omega, by simp; omega⟩
  · intro p hp
    obtain ⟨q, hq, rfl⟩ := List.mem_map.1 hp
    have := h.2 q (by simpa using hq)
    exact ⟨by simp; omega, by simp; omega, by simp; omega, by simp; omega, this.2.2.2.2⟩

theorem rev_chain {e : Nat → Nat → Bool} {n m i j : Nat} {l : List (Nat × Nat)} (hi : i ≤ n) (hj : j ≤ m) (h : Chain e (n - i) (m - j) n m l) : Chain (rev e n m) 0 0 i j (l.reverse.map fun p => (n - 1 - p.1, m - 1 - p.2)) := by
  refine ⟨?_, ?_⟩
  · rw [List.pairwise_map, List.pairwise_reverse]
    refine List.Pairwise.imp_of_mem ?_ h.1
    intro a b ha hb hab
    have h1 := h.2 a ha
    have h2 := h.2 b hb
    unfold Up at *
    exact ⟨by simp; omega, by simp; omega⟩
  · intro p hp
    obtain ⟨q, hq, rfl⟩ := List.mem_map.1 hp
    have := h.2 q (by simpa using hq)
    refine ⟨Nat.zero_le _, by simp; omega, Nat.zero_le _, by simp; omega, ?_⟩
    unfold rev
    simp only
    rw [show n - 1 - (n - 1 - q.1) = q.1 by omega, show m - 1 - (m - 1 - q.2) = q.2 by omega]
    exact this.2.2.2.2

theorem lc_rev (e : Nat → Nat → Bool) {n m i j : Nat} (hi : i ≤ n) (hj : j ≤ m) : lc (rev e n m) i j = lc (sh e (n - i) (m - j)) i j := by
  apply Nat.le_antisymm
  · obtain ⟨l, h, hn⟩ := lc_made (rev e n m) i j
    have h1 := chain_rev hi hj h
    have h2 := sh_chain (x := n - i) (y := m - j) (i := i) (j := j) (by rw [show n - i + i = n by omega, show m - j + j = m by omega]; exact h1)
    have := lc_bound h2
    simp at this
    omega
  · obtain ⟨l, h, hn⟩ := lc_made (sh e (n - i) (m - j)) i j
    have h1 := chain_sh h
    rw [show n - i + i = n by omega, show m - j + j = m by omega] at h1
    have := lc_bound (rev_chain hi hj h1)
    simp at this
    omega

theorem sh_zero (e : Nat → Nat → Bool) : sh e 0 0 = e := by funext p q; simp [sh]
theorem lc_rev_whole (e : Nat → Nat → Bool) (n m : Nat) : lc (rev e n m) n m = lc e n m := by
  rw [lc_rev e (Nat.le_refl n) (Nat.le_refl m), Nat.sub_self, Nat.sub_self, sh_zero]
end Go.Proofs.Ybulkkyu.Lcs
