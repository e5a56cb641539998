/- LawS0579BModel, LawS0579BLookup: slices.Insert (23) at place 0, one symbol, no room. -/
import Derived.Test.YbulkkyuBWalk2
import Derived.Shelf.Spec.SlicesInsert
import Derived.Lib.AppendZerosOnto
import Derived.Deep.RegionLaw
import Derived.ArgAppend
namespace Go.Proofs.Ybulkkyu.BSym
open Go.RowKit
set_option linter.unusedVariables false

/-- a row of symbols at the head of a block -/
def SymsAt (w : World) (g n : Nat) (nm rv : Nat → ByteArray) : Prop :=
  ∀ i, i < n → w.cell? ⟨g, i * 2, none⟩ = some (.string (nm i)) ∧ w.cell? ⟨g, i * 2 + 1, none⟩ = some (.string (rv i))
def consF (s : ByteArray) (f : Nat → ByteArray) : Nat → ByteArray
  | 0 => s
  | i + 1 => f i

/-- copy between slices of symbols -/
theorem run_copy_two (w : World) (ty : TypeId) (b o dLen dCap : Nat) (a : Addr) (sLen sCap : Nat) (cs : List Value) (hn : cs.length = Nat.min sLen dLen * 2)
    (hsrc : ∀ j v, cs[j]? = some v → w.cell? (a.add j) = some v) (hc : ∀ j, j < cs.length → (w.cell? ⟨b, o + j, none⟩).isSome = true) (hf : ∀ j, j < cs.length → w.frozen? ⟨b, o + j, none⟩ = false) (h1 : ∀ v ∈ cs, v.oneCell' = true) :
    (Builtin.copy_ #[34, 34] ty #[.slice (some ⟨b, o, none⟩) dLen dCap, .slice (some a) sLen sCap]).run Yba.prog w = .ok (goInt (Nat.min sLen dLen)) (w.setCells b o cs) := by
  have hl := run_loadCells_list (P := Yba.prog) w a cs hsrc
  have hst := run_storeCells_cells (P := Yba.prog) b o cs 0 w (by simpa using hc) (by simpa using hf) h1
  obtain ⟨i, hi, hz0, hz1, hz2⟩ := info_parts info48
  simp [Builtin.copy_, run_underlying Yba.underlying34, Builtin.lenOf, Builtin.firstCells, sizeOf, typeInfo, hi, hz1, ← hn, hl, hst]

theorem below_setCells {B g : Nat} {a w : World} (h : Below B a w) (hg : B ≤ g) : ∀ (vs : List Value) (o : Nat), Below B a (w.setCells g o vs) := by
  intro vs
  induction vs generalizing w with
  | nil => intro o; exact h
  | cons v r ih => intro o; exact ih (h.setCell hg v) (o + 1)

set_option maxRecDepth 100000 in
set_option maxHeartbeats 1000000 in
theorem insert_some (b n bv : Nat) (nm rv : Nat → ByteArray) (name num : ByteArray) (w : World) (hn : n ≤ 1024) (h0 : 0 < n) (hb : b < w.heap.size) (hbv : bv < w.heap.size)
    (hs : w.rowIs b 48 (n * 2) (pairF nm rv)) (v0 : w.cell? ⟨bv, 0, none⟩ = some (.string name)) (v1 : w.cell? ⟨bv, 1, none⟩ = some (.string num)) :
    Calls Yba.prog 23 #[.slice (some ⟨b, 0, none⟩) n n, .int .i64 0, .slice (some ⟨bv, 0, none⟩) 1 1] w
      fun e w' => ∃ g cap : Nat, e = .returned (.slice (some ⟨g, 0, none⟩) (n + 1) cap) ∧ w.heap.size ≤ g ∧ SymsAt w' g (n + 1) (consF name nm) (consF num rv) ∧ Below w.heap.size w w' := by
  have e0 : ¬ (n = 0) := by omega
  have e1 : ((0 : Int) == (n : Int)) = false := by simp; omega
  have e2 : ¬ ((n : Int) = 0) := by omega
  obtain ⟨i0, hi0, hz0, hzs, hzb⟩ := info_parts info48
  obtain ⟨G, hG⟩ : ∃ G, G = grownCap w (n + 1) n 48 := ⟨_, rfl⟩
  obtain ⟨W1, hW1⟩ : ∃ W1, W1 = w.drew.alloc (.cells (([] : List Value).toArray ++ Builtin.zeroCells (Value.agg #[.string ⟨#[]⟩, .string ⟨#[]⟩]).cells (n + 1) ++ Builtin.zeroCells (Value.agg #[.string ⟨#[]⟩, .string ⟨#[]⟩]).cells (G - (n + 1))) 48) := ⟨_, rfl⟩
  have hrz : ∀ ty, (Builtin.append_ #[34, 3] ty #[.slice (some ⟨b, 0, none⟩) 0 n, .int .i64 ((n : Int) + 1)]).run Yba.prog w = .ok (.slice (some ⟨w.heap.size, 0, none⟩) (n + 1) G) W1 := fun ty => by
    have hold : (Builtin.firstCells i0.size 0 (.slice (some ⟨b, 0, none⟩) 0 n)).run Yba.prog w.drew = .ok ([] : List Value).toArray w.drew :=
      run_firstCells_some w.drew i0.size 0 ⟨b, 0, none⟩ 0 n [] (by simp) (by simp)
    have h := Lib.run_append_grow_zeros w 34 3 ty 48 i0 _ .i64 .i64 Yba.underlying34 Yba.underlying3 hi0 hz0 (some ⟨b, 0, none⟩) 0 n [] hold (n + 1) (by omega) (by omega) (by omega) (by omega) (by rw [hzb]; omega) (by rw [hzb]; exact growslice_fits (by omega) (by omega))
    rw [Nat.zero_add] at h
    rw [hW1, hG]
    have e : ((n + 1 : Nat) : Int) = (n : Int) + 1 := by omega
    rw [e] at h
    exact h
  have hGn : n + 1 ≤ G := by rw [hG]; exact grownCap_ge w _ _ _
  have hN : ∀ j, j < (n + 1) * 2 → (W1.cell? ⟨w.heap.size, j, none⟩).isSome = true := fun j hj => by
    rw [hW1, World.cell?_alloc_at (w := w.drew) _ _ w.heap.size j rfl, Array.getElem?_eq_getElem (by simp [Builtin.zeroCells, Value.cells]; omega)]
    rfl
  have hNf : ∀ j, W1.frozen? ⟨w.heap.size, j, none⟩ = false := fun j => by rw [hW1]; exact World.frozen?_alloc_at (w := w.drew) _ _ w.heap.size j rfl
  have hB1 : Below w.heap.size w W1 := by rw [hW1]; exact (Below.refl _ _).drew.alloc (Nat.le_refl _) _
  obtain ⟨W2, hW2⟩ : ∃ W2, W2 = W1.setCells w.heap.size 0 [.string name, .string num] := ⟨_, rfl⟩
  have hcpA : ∀ ty, (Builtin.copy_ #[34, 34] ty #[.slice (some ⟨w.heap.size, 0, none⟩) (n + 1) G, .slice (some ⟨bv, 0, none⟩) 1 1]).run Yba.prog W1 = .ok (goInt 1) W2 := fun ty => by
    have := run_copy_two W1 ty w.heap.size 0 (n + 1) G ⟨bv, 0, none⟩ 1 1 [.string name, .string num] (by simp) (fun j v hj => by
      match j, hj with
      | 0, hj => simp at hj; subst hj; exact (hB1.cell (by simpa [Addr.add] using hbv)).trans v0
      | 1, hj => simp at hj; subst hj; exact (hB1.cell (by simpa [Addr.add] using hbv)).trans v1
      | j + 2, hj => simp at hj) (fun j hj => by rw [Nat.zero_add]; exact hN j (by simp at hj; omega)) (fun j _ => hNf _) (by simp [Value.oneCell'])
    rw [show Nat.min 1 (n + 1) = 1 by simp] at this
    rw [hW2]
    exact this
  obtain ⟨cs, hcs⟩ : ∃ cs : List Value, cs = (List.range (n * 2)).map (pairF nm rv) := ⟨_, rfl⟩
  have hcl : cs.length = n * 2 := by rw [hcs]; simp
  have hcg : ∀ j, j < n * 2 → cs[j]? = some (pairF nm rv j) := fun j hj => by rw [hcs]; simp [hj]
  have hbS : b ≠ w.heap.size := by omega
  have hf2 : ∀ x, W2.frozen? x = W1.frozen? x := fun x => by rw [hW2, World.frozen?_setCells]
  have hs2 : ∀ j, j < (n + 1) * 2 → (W2.cell? ⟨w.heap.size, j, none⟩).isSome = true := fun j hj => by
    rw [hW2]
    exact isSome_setCells _ _ _ _ (fun t ht => by rw [Nat.zero_add]; exact hN t (by simp at ht; omega)) _ (hN j hj)
  have ho2 : ∀ j, W2.cell? ⟨b, j, none⟩ = w.cell? ⟨b, j, none⟩ := fun j => by
    rw [hW2, World.cell?_setCells_out _ _ _ _ _ (fun h _ => absurd h hbS)]
    exact hB1.cell hb
  obtain ⟨W3, hW3⟩ : ∃ W3, W3 = W2.drew.setCells w.heap.size 2 cs := ⟨_, rfl⟩
  have hcpB : ∀ ty, (Builtin.copy_ #[34, 34] ty #[.slice (some ⟨w.heap.size, 2, none⟩) n (G - 1), .slice (some ⟨b, 0, none⟩) n n]).run Yba.prog W2.drew = .ok (goInt n) W3 := fun ty => by
    have := run_copy_two W2.drew ty w.heap.size 2 n (G - 1) ⟨b, 0, none⟩ n n cs (by rw [hcl]; simp) (fun j v hj => by
        have hjl : j < n * 2 := by rw [← hcl]; exact (List.getElem?_eq_some_iff.1 hj).1
        rw [hcg j hjl] at hj
        have hadd : (⟨b, 0, none⟩ : Addr).add j = ⟨b, j, none⟩ := by unfold Addr.add; split <;> simp_all
        rw [hadd]
        show W2.cell? _ = _
        rw [ho2, hs.cell hjl]
        exact hj) (fun j hj => hs2 (2 + j) (by omega)) (fun j _ => (hf2 _).trans (hNf _)) (fun v hv => by
        rw [hcs] at hv
        obtain ⟨j, _, rfl⟩ := List.mem_map.1 hv
        unfold pairF
        split <;> rfl)
    rw [show Nat.min n n = n by simp] at this
    rw [hW3]
    exact this
  have hfin : SymsAt W3 w.heap.size (n + 1) (consF name nm) (consF num rv) ∧ Below w.heap.size w W3 := by
    refine ⟨fun i hi => ?_, ?_⟩
    · have hin : ∀ j, j < n * 2 → W3.cell? ⟨w.heap.size, 2 + j, none⟩ = some (pairF nm rv j) := fun j hj => by
        rw [hW3, World.cell?_setCells_in _ cs 2 W2.drew (fun t ht => hs2 (2 + t) (by omega)) j (by omega)]
        have := hcg j hj
        rw [List.getElem?_eq_getElem (by omega)] at this
        exact this
      have hout : ∀ j, j < 2 → W3.cell? ⟨w.heap.size, j, none⟩ = ([.string name, .string num] : List Value)[j]? := fun j hj => by
        rw [hW3, World.cell?_setCells_out _ _ _ _ _ (fun _ _ => .inl hj)]
        show W2.cell? _ = _
        have h := World.cell?_setCells_in w.heap.size [.string name, .string num] 0 W1 (fun t ht => by rw [Nat.zero_add]; exact hN t (by simp at ht; omega)) j (by simpa using hj)
        rw [Nat.zero_add, ← hW2] at h
        rw [h, List.getElem?_eq_getElem (by simpa using hj)]
      match i with
      | 0 => exact ⟨hout 0 (by omega), hout 1 (by omega)⟩
      | i + 1 =>
        have h1 := hin (i * 2) (by omega)
        have h2 := hin (i * 2 + 1) (by omega)
        rw [pair_even, show 2 + i * 2 = (i + 1) * 2 by omega] at h1
        rw [pair_odd, show 2 + (i * 2 + 1) = (i + 1) * 2 + 1 by omega] at h2
        exact ⟨h1, h2⟩
    · rw [hW3, hW2]
      exact below_setCells (below_setCells hB1 (Nat.le_refl _) _ _).drew (Nat.le_refl _) _ _
  have HFin : Hid (SymsAt W3 w.heap.size (n + 1) (consF name nm) (consF num rv) ∧ Below w.heap.size w W3) := hfin
  have hG63 : G ≤ 9223372036854775807 := by
    have := grownCap_le_maxLen w (n + 1) n 48 (by unfold maxLen; omega)
    rw [← hG] at this
    unfold maxLen at this
    omega
  have hw1 : IntKind.i64.wrap 1 = 1 := IntWalk.i64_in 1 (by omega)
  have g0 : ¬ (G = 0) := by omega
  have g1 : ¬ (G = 1) := by omega
  have g2 : (1 : Int) ≤ (n : Int) + 1 := by omega
  clear hfin hcl hcg hcs hbS hf2 hs2 ho2 hB1 hN hNf hW1 hW2 hW3 hG v0 v1 hs
  go_enter Yba.func23, Yba.ntmps23
  go_wp2_with (first | (at_builtin; refine Lib.wpList_append_run _ rfl (.tmp 34) (.tmp 39) 34 3 rfl _ _ rfl rfl _ _ (hrz _) ?_) | (at_builtin; refine wpList_copy_runI _ rfl (.tmp 43) (.tmp 44) 34 34 rfl _ _ rfl rfl (hcpA _) ?_))
  go_region_law (refine step_copy_runI rfl (.tmp 50) (.tmp 53) 34 34 rfl (.slice (some ⟨w.heap.size, 2, none⟩) n (G - 1)) (.slice (some ⟨b, 0, none⟩) n n) (by simp [Act.eval, Act.put]) (by simp [Act.eval, Act.put]) (hcpB _) ?_)
  go_wp2
  go_ret
  exact ⟨_, _, rfl, Nat.le_refl _, HFin.out.1, HFin.out.2⟩

set_option maxRecDepth 100000 in
set_option maxHeartbeats 1000000 in
theorem insert_none (x : Option Addr) (bv : Nat) (nm rv : Nat → ByteArray) (name num : ByteArray) (w : World) (hbv : bv < w.heap.size)
    (v0 : w.cell? ⟨bv, 0, none⟩ = some (.string name)) (v1 : w.cell? ⟨bv, 1, none⟩ = some (.string num)) :
    Calls Yba.prog 23 #[.slice x 0 0, .int .i64 0, .slice (some ⟨bv, 0, none⟩) 1 1] w
      fun e w' => ∃ g cap : Nat, e = .returned (.slice (some ⟨g, 0, none⟩) (0 + 1) cap) ∧ w.heap.size ≤ g ∧ SymsAt w' g (0 + 1) (consF name nm) (consF num rv) ∧ Below w.heap.size w w' := by
  obtain ⟨i0, hi0, hz0, hzs, hzb⟩ := info_parts info48
  have hnews : ∀ j u, ([.string name, .string num] : List Value)[j]? = some u → w.cell? ((⟨bv, 0, none⟩ : Addr).add j) = some u := fun j v hj => by
    match j, hj with
    | 0, hj => simp at hj; subst hj; exact v0
    | 1, hj => simp at hj; subst hj; exact v1
    | j + 2, hj => simp at hj
  have HN := (show Hid _ from hnews)
  clear hnews v0 v1
  go_enter Yba.func23, Yba.ntmps23
  go_wp2_with (at_builtin; refine wpList_append_grows _ rfl (.tmp 23) (.tmp 24) 34 rfl 48 i0 _ 2 32 Yba.underlying34 hi0 hz0 hzs hzb rfl (by decide) x 0 0 [] rfl (fun _ => ⟨rfl, rfl⟩) rfl (fun _ _ j u h => by simp at h) ⟨bv, 0, none⟩ 1 1 [.string name, .string num] rfl rfl HN.out (by simp [Value.oneCell']) (by omega) (by unfold maxLen; omega) (by omega) ?_; intro v' w' hown hgrow)
  have hex : ∃ g cap, v' = .slice (some ⟨g, 0, none⟩) (0 + 1) cap ∧ w.heap.size ≤ g ∧ SymsAt w' g (0 + 1) (consF name nm) (consF num rv) := by
    rcases hown.2 with ⟨_, h⟩ | ⟨g, cap, cur, rfl, hg, _⟩
    · omega
    · refine ⟨g, cap, rfl, hg, fun i hi => ?_⟩
      have : i = 0 := by omega
      subst this
      exact ⟨hown.cellAt 0 (by omega), hown.cellAt 1 (by omega)⟩
  have HX : Hid (∃ g cap, v' = .slice (some ⟨g, 0, none⟩) (0 + 1) cap ∧ w.heap.size ≤ g ∧ SymsAt w' g (0 + 1) (consF name nm) (consF num rv)) := hex
  have HB : Hid (Below w.heap.size w w') := (Below.refl _ _).grown hgrow (Nat.le_refl _) (fun k hk => by cases hk)
  clear hex hown hgrow
  go_wp2
  go_ret
  obtain ⟨g, cap, hv, hg, hS⟩ := HX.out
  exact ⟨g, cap, by rw [hv]; rfl, hg, hS, HB.out⟩

end Go.Proofs.Ybulkkyu.BSym
