/- LawS0579BModel: the law's own walk (4). -/
import Derived.Test.YbulkkyuBWalk4
namespace Go.Proofs.Ybulkkyu.BSym
open Go.RowKit
set_option linter.unusedVariables false

theorem build_all (x : Option Addr) (b off n c : Nat) (nm rv : Nat → ByteArray) (w : World) (hn : n ≤ 1024) (hnil : x = none → n = 0 ∧ c = 0) (hx : 0 < n → x = some ⟨b, off, none⟩ ∧ b < w.heap.size) (hs : Syms w b off n nm rv) :
    Calls Yba.prog 13 #[.slice x n c] w fun e w' => ∃ y, e = .returned (.slice y n n) ∧ Hid (0 < n → y = some ⟨w.heap.size, 0, none⟩ ∧ w.heap.size < w'.heap.size ∧ w'.rowIs w.heap.size 48 (n * 2) (pairF nm rv)) ∧ Hid (Below w.heap.size w w') := by
  cases x with
  | none =>
    obtain ⟨rfl, rfl⟩ := hnil rfl
    refine (build_nil w).mono ?_
    rintro e w' ⟨rfl, rfl⟩
    exact ⟨none, rfl, fun h => absurd h (by omega), Below.refl _ _⟩
  | some a =>
    refine (build_any a b off n c nm rv w hn (fun h => (hx h).2) (fun h => by have := (hx h).1; simpa using this) hs).mono ?_
    rintro e w' ⟨rfl, h1, h2, h3⟩
    exact ⟨_, rfl, fun _ => ⟨rfl, by omega, h1⟩, h2⟩

theorem first_cases (nm : Nat → ByteArray) (name : ByteArray) (n : Nat) : (∃ k0, k0 < n ∧ hit nm name k0 = true ∧ ∀ i, i < k0 → hit nm name i = false) ∨ ∀ i, i < n → hit nm name i = false := by
  induction n with
  | zero => exact .inr (fun i h => absurd h (by omega))
  | succ n ih =>
    rcases ih with ⟨k0, h1, h2, h3⟩ | h
    · exact .inl ⟨k0, by omega, h2, h3⟩
    · cases hh : hit nm name n with
      | true => exact .inl ⟨n, by omega, hh, h⟩
      | false =>
        refine .inr (fun i hi => ?_)
        by_cases e : i = n
        · rw [e]; exact hh
        · exact h i (by omega)

/-- what is read behind SetSymbol -/
structure Rd (w : World) (F g n' cap b off n : Nat) (nm rv nm' rv' : Nat → ByteArray) (wr : World) : Prop where
  cF : wr.cell? ⟨F, 3, none⟩ = some (.slice (some ⟨g, 0, none⟩) n' cap)
  new : SymsAt wr g n' nm' rv'
  old : Syms wr b off n nm rv
  bel : Below w.heap.size w wr
theorem Rd.drewN {w : World} {F g n' cap b off n : Nat} {nm rv nm' rv' : Nat → ByteArray} {wr : World} (h : Rd w F g n' cap b off n nm rv nm' rv' wr) (q : Nat) : Rd w F g n' cap b off n nm rv nm' rv' (wr.drewN q) :=
  ⟨h.cF, h.new, h.old, ⟨h.bel.os, h.bel.tape, h.bel.output, h.bel.size, h.bel.block⟩⟩

theorem symsAt_of_row {w : World} {g n : Nat} {nm rv : Nat → ByteArray} (h : w.rowIs g 48 (n * 2) (pairF nm rv)) : SymsAt w g n nm rv := fun i hi =>
  ⟨by rw [h.cell (by omega), pair_even], by rw [h.cell (by omega), pair_odd]⟩

theorem old_below {w w' : World} {b off n : Nat} {nm rv : Nat → ByteArray} (h : Syms w b off n nm rv) (hb : 0 < n → b < w.heap.size) (hB : Below w.heap.size w w') : Syms w' b off n nm rv := fun i hi =>
  ⟨(hB.cell (hb (by omega))).trans (h i hi).1, (hB.cell (hb (by omega))).trans (h i hi).2⟩

set_option maxRecDepth 10000 in
set_option maxHeartbeats 4000000 in
theorem model_any (x : Option Addr) (b off n c : Nat) (nm rv : Nat → ByteArray) (pick : Int) (name0 num : ByteArray) (w : World) (hn : n ≤ 1024) (hnil : x = none → n = 0 ∧ c = 0) (hx : 0 < n → x = some ⟨b, off, none⟩ ∧ b < w.heap.size) (hs : Syms w b off n nm rv) (hp : 0 ≤ pick ∧ pick ≤ 255) :
    Calls Yba.prog 4 #[.slice x n c, .int .u8 pick, .string name0, .string num] w fun e w' => e = .returned (.bool true) ∧ Below w.heap.size w w' := by
  have HN := (show Hid _ from name_any x b off n c nm rv pick name0 w hn hp (fun h => (hx h).1) hs)
  have HBd := (show Hid _ from build_all x b off n c nm rv w hn hnil hx hs)
  have hg : ¬ ((1024 : Int) < (n : Int)) := by omega
  have HO : Hid (Syms w b off n nm rv) := hs
  have HX : Hid (0 < n → x = some ⟨b, off, none⟩ ∧ b < w.heap.size) := hx
  clear hnil hp hs hx
  go_enter Yba.func4, Yba.ntmps4
  go_wp2_with fail
  refine Calls.mono HN.out ?_
  rintro e w0 ⟨name, rfl, hw0⟩
  rw [hw0]
  clear HN hw0 w0
  go_wp2_with fail
  refine Calls.mono HBd.out ?_
  rintro e w1 ⟨y, rfl, HY, HB1⟩
  clear HBd
  go_wp2_with fail
  rcases first_cases nm name n with ⟨k0, hk0, hhit, hmiss⟩ | hmiss
  · obtain ⟨rfl, hlt1, hrow⟩ := HY.out (by omega)
    refine Calls.mono (set_hit w1.heap.size w.heap.size n k0 nm rv name num _ hn hk0 hhit hmiss (by simp) (by simp; omega) (by omega) (by simp) (hrow.alloc _)) ?_
    rintro e w3 ⟨rfl, h1, h2, h3⟩
    have HR : Hid (Rd w w1.heap.size w.heap.size n n b off n nm rv nm (fun i => if i = k0 then num else rv i) w3) := by
      have hb3 : Below w.heap.size w w3 := (HB1.out.alloc HB1.out.size _).trans (h3 _ (Nat.le_refl _))
      exact ⟨h1, symsAt_of_row h2, old_below HO.out (fun h => (HX.out h).2) hb3, hb3⟩
    clear h1 h2 h3 hrow HY
    obtain ⟨rfl, hbw⟩ := HX.out (by omega)
    have hk0i : (k0 : Int) < (n : Int) := by omega
    have HH : Hid (hit nm name k0 = true) := hhit
    have HMs : Hid (∀ i, i < k0 → hit nm name i = false) := hmiss
    clear hhit hmiss HX HO HB1
    go_wp2
    go_loop [10, 11] (fun f i => ∃ k : Nat, k ≤ k0 ∧ i = .int .i64 k ∧ f = .int .i64 (-1)) (fun _ i => n - (intOf i).toNat)
    case atStart => exact ⟨0, Nat.zero_le _, rfl, rfl⟩
    case round =>
      obtain ⟨k, hk, rfl, rfl⟩ := hrel
      have cO := (HR.out.old k (by omega)).1
      have hki : (k : Int) < (n : Int) := by omega
      by_cases hke : k = k0
      · subst hke
        have hh : ((nm k).toList == name.toList) = true := HH.out
        have cF := HR.out.cF
        go_wp2
        go_loopw [13, 14] (fun i _ wr => ∃ j : Nat, j ≤ n ∧ i = .int .i64 j ∧ Rd w w1.heap.size w.heap.size n n b off n nm rv nm (fun i => if i = k then num else rv i) wr) (fun i _ _ => n - (intOf i).toNat)
        case atStart => exact ⟨0, Nat.zero_le _, rfl, HR.out⟩
        case round =>
          clear cO cF
          obtain ⟨j, hj, rfl, hrd⟩ := hrel
          by_cases hjn : j < n
          · have hji : (j : Int) < (n : Int) := by omega
            have o0 := (hrd.old j hjn).1
            have o1 := (hrd.old j hjn).2
            have n0 := (hrd.new j hjn).1
            have n1 := (hrd.new j hjn).2
            have cF := hrd.cF
            have HRd : Hid (Rd w w1.heap.size w.heap.size n n b off n nm rv nm (fun i => if i = k then num else rv i) wr) := hrd
            clear hrd
            by_cases hjk : j = k
            · subst hjk
              simp only [if_pos] at n1
              have hq : ((j : Int) == (j : Int)) = true := by simp
              go_wp2
              go_quiet (fail)
              go_wp2
              go_roundw
              case rel => exact ⟨j + 1, by omega, by go_num, HRd.out.drewN _⟩
              case measure => simp [intOf]; omega
            · simp only [if_neg hjk] at n1
              have hq : ((j : Int) == (k : Int)) = false := by simp; omega
              clear hjk
              go_wp2
              go_quiet (fail)
              go_wp2
              go_roundw
              case rel => exact ⟨j + 1, by omega, by go_num, HRd.out.drewN _⟩
              case measure => simp [intOf]; omega
          · have HB : Hid (Below w.heap.size w wr) := hrd.bel
            clear hrd
            go_wp2
            go_ret
            exact ⟨rfl, HB.out⟩
      · have hh : ((nm k).toList == name.toList) = false := HMs.out k (by omega)
        go_wp2
        go_round
        case rel => exact ⟨k + 1, by omega, by go_num, rfl⟩
        case measure => simp [intOf]; omega
  · refine Calls.mono (set_miss w1.heap.size y w.heap.size n nm rv name num _ hn hmiss (by simp) (by simp) (by simp) (fun h => ⟨(HY.out h).1, by have := (HY.out h).2.1; simp; omega, World.rowIs.alloc (HY.out h).2.2 _⟩)) ?_
    rintro e w3 ⟨rfl, g, cap, h1, h2, h3⟩
    have HR : Hid (Rd w w1.heap.size g (n + 1) cap b off n nm rv (consF name nm) (consF num rv) w3) := by
      have hb3 : Below w.heap.size w w3 := (HB1.out.alloc HB1.out.size _).trans (h3 _ HB1.out.size)
      exact ⟨h1, h2, old_below HO.out (fun h => (HX.out h).2) hb3, hb3⟩
    have HMs : Hid (∀ i, i < n → hit nm name i = false) := hmiss
    clear h1 h2 h3 HY hmiss HO HB1
    go_wp2
    go_loop [10, 11] (fun f i => ∃ k : Nat, k ≤ n ∧ i = .int .i64 k ∧ f = .int .i64 (-1)) (fun _ i => n - (intOf i).toNat)
    case atStart => exact ⟨0, Nat.zero_le _, rfl, rfl⟩
    case round =>
      obtain ⟨k, hk, rfl, rfl⟩ := hrel
      by_cases hkn : k < n
      · obtain ⟨rfl, hbw⟩ := HX.out (by omega)
        have cO := (HR.out.old k (by omega)).1
        have hki : (k : Int) < (n : Int) := by omega
        have hh : ((nm k).toList == name.toList) = false := HMs.out k hkn
        go_wp2
        go_round
        case rel => exact ⟨k + 1, by omega, by go_num, rfl⟩
        case measure => simp [intOf]; omega
      · have cF := HR.out.cF
        have n0 : w3.cell? ⟨g, 0, none⟩ = some (.string name) := (HR.out.new 0 (by omega)).1
        have n1 : w3.cell? ⟨g, 1, none⟩ = some (.string num) := (HR.out.new 0 (by omega)).2
        have hni : (0 : Int) < (n : Int) + 1 := by omega
        go_wp2
        go_loopw [12] (fun i wr => ∃ j : Nat, j ≤ n ∧ i = .int .i64 j ∧ Rd w w1.heap.size g (n + 1) cap b off n nm rv (consF name nm) (consF num rv) wr) (fun i _ => n - (intOf i).toNat)
        case atStart => exact ⟨0, Nat.zero_le _, rfl, HR.out⟩
        case round =>
          clear cF n0 n1
          obtain ⟨j, hj, rfl, hrd⟩ := hrel
          by_cases hjn : j < n
          · obtain ⟨rfl, hbw⟩ := HX.out (by omega)
            have hji : (j : Int) < (n : Int) := by omega
            have hji1 : (j : Int) + 1 < (n : Int) + 1 := by omega
            have o0 := (hrd.old j hjn).1
            have o1 := (hrd.old j hjn).2
            have n0 : wr.cell? ⟨g, (j + 1) * 2, none⟩ = some (.string (nm j)) := (hrd.new (j + 1) (by omega)).1
            have n1 : wr.cell? ⟨g, (j + 1) * 2 + 1, none⟩ = some (.string (rv j)) := (hrd.new (j + 1) (by omega)).2
            have cF := hrd.cF
            have HRd : Hid (Rd w w1.heap.size g (n + 1) cap b off n nm rv (consF name nm) (consF num rv) wr) := hrd
            clear hrd
            go_wp2
            go_quiet (fail)
            go_wp2
            go_roundw
            case rel => exact ⟨j + 1, by omega, by go_num, HRd.out.drewN _⟩
            case measure => simp [intOf]; omega
          · have HB : Hid (Below w.heap.size w wr) := hrd.bel
            clear hrd
            go_wp2
            go_ret
            exact ⟨rfl, HB.out⟩

end Go.Proofs.Ybulkkyu.BSym
