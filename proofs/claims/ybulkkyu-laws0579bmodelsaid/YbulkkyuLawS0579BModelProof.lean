/-
  'Rows.LawS0579BModelSaid' ('rcs.LawS0579BModel') PROVED, after the frame that the guide's skeleton tool writes for laws over slices of integers, turned to a slice of structs of two strings.
-/
import Derived.Test.YbulkkyuBModel
import Derived.WalkKit
import Derived.ProofKit
import Derived.OpenShut
import Derived.ShutString
import Derived.ChangeOld
import Derived.Below
import Derived.Deep.SlicePairs
namespace Go.Proofs.Ybulkkyu.lawS0579BModel
open Go.ChangeShapes Go.WideShapes Go.ChangeAt Go.RowKit
open Go.ChangeMaps (open_string shut_string)
set_option linter.unusedVariables false

theorem own : ownKnob Yba.prog.godebug = none := by kernel_rfl
theorem laidOut : laidOutB Yba.prog = true := by kernel_rfl
theorem cells47 : Yba.prog.cellsOf 47 = 2 := by kernel_rfl
theorem cells9 : Yba.prog.cellsOf 9 = 1 := by kernel_rfl

/-- WHAT THE WALK IS TOLD OF THE SLICE OF SYMBOLS THAT CAME IN. -/
def IsSyms (w : World) (a : Option Addr) (len cap b off : Nat) (nm rv : Nat → ByteArray) : Prop :=
  len ≤ maxLen ∧ (a = none → len = 0 ∧ cap = 0) ∧ (0 < len → a = some ⟨b, off, none⟩ ∧ b < w.heap.size) ∧ BSym.Syms w b off len nm rv

theorem walk (a0 : Option Addr) (len0 cap0 b off : Nat) (nm rv : Nat → ByteArray) (a1 : Int) (a2 a3 : ByteArray) (w : World) (w0 : IsSyms w a0 len0 cap0 b off nm rv) (w1 : (Lit.int .u8 a1).wf = true) :
    Calls Yba.prog 4 #[.slice a0 len0 cap0, .int .u8 a1, .string a2, .string a3] w fun e w' => e = .returned (.bool true) ∧ Below w.heap.size w w' := by
  obtain ⟨hm, hnil, hx, hs⟩ := w0
  by_cases hg : (1024 : Int) < (len0 : Int)
  · unfold maxLen at hm
    clear hnil hx hs
    go_enter Yba.func4, Yba.ntmps4
    go_wp2
    go_ret
    exact ⟨rfl, Below.refl _ _⟩
  · exact BSym.model_any a0 b off len0 cap0 nm rv a1 a2 a3 w (by omega) hnil hx hs (bounds_u8 w1)

set_option maxRecDepth 100000 in
theorem lifted (os : Os) (started : os.Started) (H : Type) (enc : TypeId × Value → H) :
    ReturnsInHanded {} Yba.checked os 4 .any (Rows.lawS0579BModelSpec.pre6 enc Yba.prog Yba.f4 Rows.lawS0579BModelRow.domain false) (Rows.lawS0579BModelSpec.post enc Yba.prog Yba.f4 false true false false) := by
  refine returnsInHanded_of_change (C := Yba.checked) own started (by kernel_rfl) Yba.func4
    (ChangeSpec.witness6 (enc := enc) (C := Yba.checked) false ⟨#[], #[.slice none 0 0, .int .u8 0, .string ByteArray.empty, .string ByteArray.empty], []⟩ 8 (by kernel_rfl) (by kernel_rfl) (by kernel_rfl) (by kernel_rfl)) ?_
  intro W base args ds gs before hval0 hW hcnd _
  have hval : ∀ (j : Nat) t v, Yba.f4.params[j]? = some t → args[j]? = some v → Value.okWide Yba.prog W .any base t v := hval0
  have hW' := hW
  obtain ⟨p, q, hA0, hV, rfl, hfz, hnd⟩ := hW
  have hA : DataW.TrodAll enc Yba.prog W 0 (fun _ => true) true Yba.f4.params.toList args.toList ds p := hA0
  rw [Yba.params4] at hA hval
  obtain ⟨v0, vs0, d0, ds0, p0, q0, hargs, rfl, rfl, h0, r0⟩ := trodAll_cons hA
  obtain ⟨v1, vs1, d1, ds1, p1, q1, rfl, rfl, rfl, h1, r1⟩ := trodAll_cons r0
  obtain ⟨v2, vs2, d2, ds2, p2, q2, rfl, rfl, rfl, h2, r2⟩ := trodAll_cons r1
  obtain ⟨v3, vs3, d3, ds3, p3, q3, rfl, rfl, rfl, h3, r3⟩ := trodAll_cons r2
  obtain ⟨rfl, rfl, rfl⟩ := trodAll_nil r3
  obtain rfl : args = #[v0, v1, v2, v3] := by cases args; simp_all
  obtain ⟨rfl, rfl⟩ := trodVars_none hV
  obtain ⟨a0, len0, cap0, rfl⟩ := okWide_slice Yba.underlying31 (hval 0 31 v0 rfl rfl)
  have k0 := h0
  have lt0 : ∀ x ∈ p0, x.block < W.heap.size := by obtain ⟨m, hm⟩ := k0; exact DataW.trod_lt m _ _ _ hm
  obtain ⟨b, off, nm, rv, w0⟩ : ∃ b off nm rv, IsSyms W a0 len0 cap0 b off nm rv := by
    obtain ⟨fuel, hf⟩ := h0
    rcases Deep.open_slice_pairs Yba.underlying31 Yba.underlying47 cells47 rfl rfl cells9 cells9 hf with ⟨hcs, _⟩ | ⟨x, l, c, m, n, V0, V1, D0, D1, P0, P1, hcs, _, hl, hm, hmm, _, hcell⟩
    · simp [Value.cells] at hcs
      obtain ⟨rfl, rfl, rfl⟩ := hcs
      exact ⟨0, 0, fun _ => ⟨#[]⟩, fun _ => ⟨#[]⟩, Nat.zero_le _, fun _ => ⟨rfl, rfl⟩, fun h => absurd h (by omega), fun i hi => absurd hi (by omega)⟩
    · simp [Value.cells] at hcs
      obtain ⟨rfl, rfl, rfl⟩ := hcs
      have hml : len0 ≤ m := by rw [hmm]; split <;> omega
      have each : ∀ i, i < len0 → ∃ s : ByteArray × ByteArray, W.cell? (x.add (i * 2)) = some (.string s.1) ∧ W.cell? (x.add (i * 2 + 1)) = some (.string s.2) := fun i hi => by
        obtain ⟨g0, g1, g2, g3⟩ := hcell i (by omega)
        obtain ⟨s0, e0, _⟩ := DataW.trod_string Yba.underlying9 g2
        obtain ⟨s1, e1, _⟩ := DataW.trod_string Yba.underlying9 g3
        simp at e0 e1
        rw [e0] at g0
        rw [e1] at g1
        exact ⟨(s0, s1), g0, g1⟩
      obtain ⟨f, hf2⟩ := Deep.choose_lt each
      by_cases hz : len0 = 0
      · exact ⟨0, 0, fun _ => ⟨#[]⟩, fun _ => ⟨#[]⟩, by omega, fun h => (by cases h), fun h => absurd h (by omega), fun i hi => absurd hi (by omega)⟩
      · obtain ⟨b, off, spot⟩ := x
        have hspot : spot = none := by simpa [Addr.add] using World.cell?_spot (hf2 0 (by omega)).1
        subst hspot
        refine ⟨b, off, fun i => (f i).1, fun i => (f i).2, by omega, fun h => (by cases h), fun _ => ⟨rfl, ?_⟩, fun i hi => ?_⟩
        · have := (hf2 0 (by omega)).1
          rw [add_plain] at this
          exact BSym.lt_of_cell this
        · have := hf2 i hi
          rw [add_plain, add_plain] at this
          exact this
  obtain ⟨a1, rfl, rfl, rfl, w1⟩ := open_int Yba.underlying5 (hval 1 5 v1 rfl rfl) h1
  obtain ⟨a2, rfl, rfl, rfl, w2⟩ := open_string Yba.underlying9 (hval 2 9 v2 rfl rfl) h2
  obtain ⟨a3, rfl, rfl, rfl, w3⟩ := open_string Yba.underlying9 (hval 3 9 v3 rfl rfl) h3
  clear hA0 hval0
  refine (walk a0 len0 cap0 b off nm rv a1 a2 a3 W w0 w1).mono fun e W' ⟨he, bel⟩ => ?_
  subst he
  exact ⟨_, rfl, _, _, _, [], _, [], hW', trodAll_mk1 (shut_bool Yba.underlying4 _), (trodAll_cons_mk (Below.trod laidOut (by kernel_rfl) (of_decide_eq_true (by kernel_rfl)) k0 bel lt0) (trodAll_cons_mk (shut_int Yba.underlying5 w1) (trodAll_cons_mk (shut_string Yba.underlying9 w2) (trodAll_cons_mk (shut_string Yba.underlying9 w3) trodAll_mk0)))), rfl, bel.frame _, fun h => by cases h⟩

theorem over : Rows.lawS0579BModelRow.holds Yba.pinned (OpenSpec.ofChange Rows.lawS0579BModelSpec) :=
  OpenClaim.holds_of_wide 4 Yba.f4 rfl rfl rfl rfl rfl rfl rfl ⟨rfl, rfl, rfl, rfl, rfl⟩ rfl rfl rfl rfl rfl (by kernel_rfl) Yba.func4 (by kernel_rfl)
    (of_decide_eq_true (by kernel_rfl)) (by unfold Func.isWrapper; first | (rw [if_pos (by decide +kernel)]; kernel_rfl) | (rw [if_neg (by decide +kernel)]; exact ⟨rfl, rfl⟩))
    (fun os started H enc _ => lifted os started H enc)

/-- THE STATEMENT -/
theorem proved : Rows.LawS0579BModelSaid := over
#print axioms proved
end Go.Proofs.Ybulkkyu.lawS0579BModel
