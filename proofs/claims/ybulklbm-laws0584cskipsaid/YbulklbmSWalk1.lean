/- LawS0584CSkip, LawS0584CIdem: zzs0584cpick (22), zzs0584cbuild (15), peek (23), advance (24), isSpace (25). -/
import Derived.Test.YbulklbmRows
import Derived.Test.YbulklbmPlain
import Derived.WalkKit
import Derived.WalkSpells
import Derived.Deep.OwnRows
import Derived.Deep.QuietTactic
import Derived.BigQuiet
import Derived.BigGuardPart
namespace Go.Proofs.Ybulklbm.Skip
open Go.RowKit
set_option linter.unusedVariables false

theorem info21 : (Yba.prog.info? 21).map (fun i => (i.zero, i.size, i.bytes)) = some (some (.int .i32 0), 1, 4) := by kernel_rfl

theorem pick_any (d : Int) (hd : 0 ≤ d ∧ d ≤ 255) (w : World) : Calls Yba.prog 22 #[.int .u8 d] w fun e w' => ∃ r : Int, e = .returned (.int .i32 r) ∧ w' = w := by
  obtain ⟨d1, d2⟩ := hd
  go_enter Yba.func22, Yba.ntmps22
  go_wp2
  all_goals (go_ret; exact ⟨_, rfl, rfl⟩)

/-- the scanner lies at S, its characters at g -/
structure Sc (w0 wb : World) (S g n : Nat) (R : Nat → Int) (i : Nat) (l c : Int) (wr : World) : Prop where
  c0 : wr.cell? ⟨S, 0, none⟩ = some (.slice (some ⟨g, 0, none⟩) n n)
  c1 : wr.cell? ⟨S, 1, none⟩ = some (.int .i64 i)
  c2 : wr.cell? ⟨S, 2, none⟩ = some (.int .i32 l)
  c3 : wr.cell? ⟨S, 3, none⟩ = some (.int .i32 c)
  f : ∀ j, wr.frozen? ⟨S, j, none⟩ = false
  src : ∀ j, j < n → wr.cell? ⟨g, j, none⟩ = some (.int .i32 (R j))
  ne : S ≠ g
  sw : w0.heap.size ≤ S
  bel : Below w0.heap.size w0 wr
  keep : ∀ (a : Addr) (v : Value), a.block ≠ S → wb.cell? a = some v → wr.cell? a = some v

section
variable {w0 wb : World} {S g n : Nat} {R : Nat → Int} {i : Nat} {l c : Int} {wr : World}

theorem Sc.drewN (h : Sc w0 wb S g n R i l c wr) (q : Nat) : Sc w0 wb S g n R i l c (wr.drewN q) :=
  ⟨h.c0, h.c1, h.c2, h.c3, h.f, h.src, h.ne, h.sw, ⟨h.bel.os, h.bel.tape, h.bel.output, h.bel.size, h.bel.block⟩, h.keep⟩

theorem oth {a p : Addr} (v : Value) (h : p ≠ a) : (wr.setCell p v).cell? a = wr.cell? a := World.cell?_setCell_other _ _ _ _ h

theorem Sc.set1 (h : Sc w0 wb S g n R i l c wr) (i' : Nat) : Sc w0 wb S g n R i' l c (wr.setCell ⟨S, 1, none⟩ (.int .i64 i')) :=
  ⟨(oth _ (by simp)).trans h.c0, World.cell?_setCell_same _ _ _ h.c1, (oth _ (by simp)).trans h.c2, (oth _ (by simp)).trans h.c3, fun j => by rw [World.frozen?_setCell]; exact h.f j,
    fun j hj => (oth _ (by intro e; simp at e; exact h.ne e.1)).trans (h.src j hj), h.ne, h.sw, h.bel.setCell h.sw _, fun a v ha hv => (oth _ (fun e => ha (by rw [← e]))).trans (h.keep a v ha hv)⟩
theorem Sc.set2 (h : Sc w0 wb S g n R i l c wr) (l' : Int) : Sc w0 wb S g n R i l' c (wr.setCell ⟨S, 2, none⟩ (.int .i32 l')) :=
  ⟨(oth _ (by simp)).trans h.c0, (oth _ (by simp)).trans h.c1, World.cell?_setCell_same _ _ _ h.c2, (oth _ (by simp)).trans h.c3, fun j => by rw [World.frozen?_setCell]; exact h.f j,
    fun j hj => (oth _ (by intro e; simp at e; exact h.ne e.1)).trans (h.src j hj), h.ne, h.sw, h.bel.setCell h.sw _, fun a v ha hv => (oth _ (fun e => ha (by rw [← e]))).trans (h.keep a v ha hv)⟩
theorem Sc.set3 (h : Sc w0 wb S g n R i l c wr) (c' : Int) : Sc w0 wb S g n R i l c' (wr.setCell ⟨S, 3, none⟩ (.int .i32 c')) :=
  ⟨(oth _ (by simp)).trans h.c0, (oth _ (by simp)).trans h.c1, (oth _ (by simp)).trans h.c2, World.cell?_setCell_same _ _ _ h.c3, fun j => by rw [World.frozen?_setCell]; exact h.f j,
    fun j hj => (oth _ (by intro e; simp at e; exact h.ne e.1)).trans (h.src j hj), h.ne, h.sw, h.bel.setCell h.sw _, fun a v ha hv => (oth _ (fun e => ha (by rw [← e]))).trans (h.keep a v ha hv)⟩
theorem Sc.rebase (h : Sc w0 wb S g n R i l c wr) : Sc w0 wr S g n R i l c wr := ⟨h.c0, h.c1, h.c2, h.c3, h.f, h.src, h.ne, h.sw, h.bel, fun _ _ _ hv => hv⟩

theorem lt_of_cell {w : World} {b o : Nat} {v : Value} (h : w.cell? ⟨b, o, none⟩ = some v) : b < w.heap.size := by
  by_cases hb : b < w.heap.size
  · exact hb
  · have : w.heap[b]? = none := Array.getElem?_eq_none (by omega)
    simp [World.cell?, this] at h
theorem Sc.alloc (h : Sc w0 wb S g n R i l c wr) (C : Array Value) (t : TypeId) : Sc w0 (wr.alloc (.cells C t)) S g n R i l c (wr.alloc (.cells C t)) := by
  have hS := lt_of_cell h.c0
  refine ⟨(World.cell?_alloc_past _ _ _ hS).trans h.c0, (World.cell?_alloc_past _ _ _ hS).trans h.c1, (World.cell?_alloc_past _ _ _ hS).trans h.c2, (World.cell?_alloc_past _ _ _ hS).trans h.c3, fun j => ?_,
    fun j hj => (World.cell?_alloc_past _ _ _ (lt_of_cell (h.src j hj))).trans (h.src j hj), h.ne, h.sw, h.bel.alloc h.bel.size _, fun _ _ _ hv => hv⟩
  rw [RowKit.frozen?_alloc_cells]
  exact h.f j
end

/-- the next character, or -1 -/
def pk (R : Nat → Int) (n i : Nat) : Int := if i < n then R i else -1

theorem peek_any (w0 wb : World) (S g n : Nat) (R : Nat → Int) (i : Nat) (l c : Int) (wr : World) (hn : n ≤ 4096) (hi : i ≤ n) (h : Sc w0 wb S g n R i l c wr) :
    Calls Yba.prog 23 #[.pointer (some ⟨S, 0, none⟩), .int .i64 0] wr fun e w' => e = .returned (.int .i32 (pk R n i)) ∧ Hid (Sc w0 wb S g n R i l c w') := by
  have c0 := h.c0
  have c1 := h.c1
  have H : Hid (Sc w0 wb S g n R i l c wr) := h
  unfold pk
  by_cases hlt : i < n
  · have cs := h.src i hlt
    have hi' : (i : Int) < (n : Int) := by omega
    rw [if_pos hlt]
    clear h
    go_enter Yba.func23, Yba.ntmps23
    go_wp2
    go_quiet (fail)
    go_wp2
    go_quiet (fail)
    go_wp2
    go_ret
    exact ⟨rfl, (H.out.drewN _).drewN _⟩
  · rw [if_neg hlt]
    clear h
    go_enter Yba.func23, Yba.ntmps23
    go_wp2
    go_quiet (fail)
    go_wp2
    go_ret
    exact ⟨rfl, H.out.drewN _⟩

set_option maxHeartbeats 400000 in
theorem advance_any (w0 wb : World) (S g n : Nat) (R : Nat → Int) (i : Nat) (l c : Int) (wr : World) (hn : n ≤ 4096) (hi : i < n) (h : Sc w0 wb S g n R i l c wr) :
    Calls Yba.prog 24 #[.pointer (some ⟨S, 0, none⟩)] wr fun e w' => e = .returned (.int .i32 (R i)) ∧ Hid (Sc w0 wb S g n R (i + 1) (nl (R i) l) (nc (R i) c) w') := by
  have c0 := h.c0
  have c1 := h.c1
  have c2 := h.c2
  have c3 := h.c3
  have f1 := h.f 1
  have f2 := h.f 2
  have f3 := h.f 3
  have cs := h.src i hi
  have hi' : (i : Int) < (n : Int) := by omega
  have H : Hid (Sc w0 wb S g n R i l c wr) := h
  clear h
  by_cases hr : R i = 10
  · have e1 : nl (R i) l = wrap32 (l + 1) := if_pos hr
    have e2 : nc (R i) c = 1 := if_pos hr
    rw [e1, e2]
    have hb : (R i == 10) = true := by simpa using hr
    clear e1 e2 hr
    go_enter Yba.func24, Yba.ntmps24
    go_wp2
    go_quiet (fail)
    go_wp2
    go_ret
    exact ⟨rfl, ((((H.out.drewN _).set1 (i + 1)).set2 _).set3 _)⟩
  · have e1 : nl (R i) l = l := if_neg hr
    have e2 : nc (R i) c = wrap32 (c + 1) := if_neg hr
    rw [e1, e2]
    have hb : (R i == 10) = false := by simpa using hr
    clear e1 e2 hr
    go_enter Yba.func24, Yba.ntmps24
    go_wp2
    go_quiet (fail)
    go_wp2
    go_ret
    exact ⟨rfl, (((H.out.drewN _).set1 (i + 1)).set3 _)⟩

theorem space_any (r : Int) (w : World) : Calls Yba.prog 25 #[.int .i32 r] w fun e w' => e = .returned (.bool (isSp r)) ∧ w' = w := by
  by_cases h0 : 0 ≤ r
  · by_cases h1 : r ≤ 32
    · have e : isSp r = true := by simp [isSp]; omega
      rw [e]
      clear e
      go_enter Yba.func25, Yba.ntmps25
      go_wp2
      all_goals (go_ret; first | exact ⟨rfl, rfl⟩ | omega)
    · by_cases h2 : 128 ≤ r
      · by_cases h3 : r ≤ 160
        · have e : isSp r = true := by simp [isSp]; omega
          rw [e]
          clear e
          go_enter Yba.func25, Yba.ntmps25
          go_wp2
          all_goals (go_ret; first | exact ⟨rfl, rfl⟩ | omega)
        · have e : isSp r = false := by simp [isSp]; omega
          rw [e]
          clear e
          go_enter Yba.func25, Yba.ntmps25
          go_wp2
          all_goals (go_ret; first | exact ⟨rfl, rfl⟩ | omega)
      · have e : isSp r = false := by simp [isSp]; omega
        rw [e]
        clear e
        go_enter Yba.func25, Yba.ntmps25
        go_wp2
        all_goals (go_ret; first | exact ⟨rfl, rfl⟩ | omega)
  · have e : isSp r = false := by simp [isSp]; omega
    rw [e]
    clear e
    go_enter Yba.func25, Yba.ntmps25
    go_wp2
    all_goals (go_ret; first | exact ⟨rfl, rfl⟩ | omega)
end Go.Proofs.Ybulklbm.Skip
