/- What scanner.skipSpace comes to, as plain mathematics. No Go in sight. -/
import Derived.RowKit
namespace Go.Proofs.Ybulklbm.Skip
open Go.RowKit

/-- white space -/
def isSp (r : Int) : Bool := decide (0 ≤ r ∧ r ≤ 32 ∨ 128 ≤ r ∧ r ≤ 160)
/-- line and column behind a character -/
def nl (r l : Int) : Int := if r = 10 then wrap32 (l + 1) else l
def nc (r c : Int) : Int := if r = 10 then 1 else wrap32 (c + 1)

/-- where the skip stops, m characters being left; cm: inside a comment -/
def res (R : Nat → Int) : Nat → Bool → Nat → Int → Int → Nat × Int × Int
  | 0, _, i, l, c => (i, l, c)
  | m + 1, cm, i, l, c =>
    if cm = true ∧ ¬ (R i < 0 ∨ R i = 10) then res R m true (i + 1) (nl (R i) l) (nc (R i) c)
    else if R i = 37 then res R m true (i + 1) (nl (R i) l) (nc (R i) c)
    else if isSp (R i) = true then res R m false (i + 1) (nl (R i) l) (nc (R i) c)
    else (i, l, c)

def rs (R : Nat → Int) (n : Nat) (cm : Bool) (i : Nat) (l c : Int) : Nat × Int × Int := res R (n - i) cm i l c

variable {R : Nat → Int} {n i : Nat} {l c : Int} {cm : Bool}

theorem rs_end (h : n ≤ i) : rs R n cm i l c = (i, l, c) := by
  unfold rs
  rw [show n - i = 0 by omega]
  rfl
theorem rs_step (h : i < n) : rs R n cm i l c =
    if cm = true ∧ ¬ (R i < 0 ∨ R i = 10) then rs R n true (i + 1) (nl (R i) l) (nc (R i) c)
    else if R i = 37 then rs R n true (i + 1) (nl (R i) l) (nc (R i) c)
    else if isSp (R i) = true then rs R n false (i + 1) (nl (R i) l) (nc (R i) c)
    else (i, l, c) := by
  unfold rs
  rw [show n - i = (n - (i + 1)) + 1 by omega]
  rfl
theorem rs_in (h : i < n) (h1 : 0 ≤ R i) (h2 : R i ≠ 10) : rs R n true i l c = rs R n true (i + 1) (nl (R i) l) (nc (R i) c) := by
  rw [rs_step h, if_pos ⟨rfl, by omega⟩]
theorem rs_out (h : i < n) (h1 : R i < 0 ∨ R i = 10) : rs R n true i l c = rs R n false i l c := by
  rw [rs_step h, rs_step (cm := false) h, if_neg (fun h => h.2 h1), if_neg (show ¬ (false = true ∧ ¬ (R i < 0 ∨ R i = 10)) from fun h => by cases h.1)]
theorem rs_pct (h : i < n) (h1 : R i = 37) : rs R n false i l c = rs R n true i l c := by
  rw [rs_step h, rs_step (cm := true) h, if_neg (show ¬ (false = true ∧ ¬ (R i < 0 ∨ R i = 10)) from fun h => by cases h.1), if_pos h1, if_pos ⟨rfl, by omega⟩]
theorem rs_pct1 (h : i < n) (h1 : R i = 37) : rs R n false i l c = rs R n true (i + 1) (nl (R i) l) (nc (R i) c) := by
  rw [rs_step h, if_neg (fun h => by cases h.1), if_pos h1]
theorem rs_sp (h : i < n) (h1 : R i ≠ 37) (h2 : isSp (R i) = true) : rs R n false i l c = rs R n false (i + 1) (nl (R i) l) (nc (R i) c) := by
  rw [rs_step h, if_neg (fun h => by cases h.1), if_neg h1, if_pos h2]
theorem rs_stop (h : i < n) (h1 : R i ≠ 37) (h2 : isSp (R i) = false) : rs R n false i l c = (i, l, c) := by
  rw [rs_step h, if_neg (fun h => by cases h.1), if_neg h1, if_neg (by rw [h2]; decide)]

/-- where it stops it stands still -/
theorem res_done (R : Nat → Int) : ∀ (m : Nat) (cm : Bool) (i : Nat) (l c : Int), i ≤ (res R m cm i l c).1 ∧ (res R m cm i l c).1 ≤ i + m ∧ ((res R m cm i l c).1 < i + m → R (res R m cm i l c).1 ≠ 37 ∧ isSp (R (res R m cm i l c).1) = false) := by
  intro m
  induction m with
  | zero => intro cm i l c; exact ⟨Nat.le_refl _, Nat.le_refl _, fun h => absurd h (Nat.lt_irrefl _)⟩
  | succ m ih =>
    intro cm i l c
    have key : ∀ b l' c', i ≤ (res R m b (i + 1) l' c').1 ∧ (res R m b (i + 1) l' c').1 ≤ i + (m + 1) ∧ ((res R m b (i + 1) l' c').1 < i + (m + 1) → R (res R m b (i + 1) l' c').1 ≠ 37 ∧ isSp (R (res R m b (i + 1) l' c').1) = false) := fun b l' c' => by
      obtain ⟨h1, h2, h3⟩ := ih b (i + 1) l' c'
      exact ⟨by omega, by omega, fun h => h3 (by omega)⟩
    simp only [res]
    split
    · exact key _ _ _
    · split
      · exact key _ _ _
      · split
        · exact key _ _ _
        · rename_i h1 h2 h3
          exact ⟨Nat.le_refl _, by omega, fun _ => ⟨h2, by simpa using h3⟩⟩

theorem rs_done (R : Nat → Int) (n : Nat) (cm : Bool) (i : Nat) (l c : Int) (hi : i ≤ n) : i ≤ (rs R n cm i l c).1 ∧ (rs R n cm i l c).1 ≤ n ∧ ((rs R n cm i l c).1 < n → R (rs R n cm i l c).1 ≠ 37 ∧ isSp (R (rs R n cm i l c).1) = false) := by
  obtain ⟨h1, h2, h3⟩ := res_done R (n - i) cm i l c
  exact ⟨h1, by unfold rs; omega, fun h => h3 (by unfold rs at h; omega)⟩

theorem rs_again (R : Nat → Int) (n : Nat) (cm : Bool) (i : Nat) (l c : Int) (hi : i ≤ n) (l' c' : Int) : rs R n false (rs R n cm i l c).1 l' c' = ((rs R n cm i l c).1, l', c') := by
  obtain ⟨h1, h2, h3⟩ := rs_done R n cm i l c hi
  by_cases h : (rs R n cm i l c).1 < n
  · exact rs_stop h (h3 h).1 (h3 h).2
  · exact rs_end (by omega)
end Go.Proofs.Ybulklbm.Skip
