/- LawS0579ASplitKeepsLCS: where all lies while middle (10) runs. -/
import Derived.Test.YbulkkyuAWalk2
import Derived.Test.YbulkkyuMyers2
import Derived.Deep.RegionHeld3
import Derived.Deep.DrawnRows
namespace Go.Proofs.Ybulkkyu.ASplit
open Go.RowKit Lcs

/-- where all lies while middle runs -/
structure Mem (bs ba bb' bf bb la lb off n m : Nat) (A B : Nat → Int) (w wr : World) (V U : Int → Int) : Prop where
  cN : wr.cell? ⟨w.heap.size, 0, none⟩ = some (.int .i64 n)
  cM : wr.cell? ⟨w.heap.size + 1, 0, none⟩ = some (.int .i64 m)
  cO : wr.cell? ⟨w.heap.size + 1 + 1, 0, none⟩ = some (.int .i64 off)
  c0 : wr.cell? ⟨bs, 0, none⟩ = some (.slice (some ⟨ba, 0, none⟩) la la)
  c1 : wr.cell? ⟨bs, 1, none⟩ = some (.slice (some ⟨bb', 0, none⟩) lb lb)
  hA : ∀ i, i < la → wr.cell? ⟨ba, i, none⟩ = some (.int .u8 (A i))
  hB : ∀ i, i < lb → wr.cell? ⟨bb', i, none⟩ = some (.int .u8 (B i))
  rV : wr.rowIs bf 3 (2 * off + 1) (fun j => .int .i64 (V ((j : Int) - off)))
  rU : wr.rowIs bb 3 (2 * off + 1) (fun j => .int .i64 (U ((j : Int) - off)))
  bV : ∀ j, -1 ≤ V j ∧ V j ≤ 300
  bU : ∀ j, -1 ≤ U j ∧ U j ≤ 300
  bel : ∀ C, C ≤ bf → C ≤ bb → Below C w wr

/-- the blocks are apart -/
structure Apart (bs ba bb' bf bb N : Nat) : Prop where
  n1 : bf ≠ bb
  n2 : bs ≠ bf
  n3 : bs ≠ bb
  n4 : ba ≠ bf
  n5 : ba ≠ bb
  n6 : bb' ≠ bf
  n7 : bb' ≠ bb
  z1 : bs < N
  z2 : ba < N
  z3 : bb' < N
  z4 : bf < N
  z5 : bb < N

section
variable {bs ba bb' bf bb la lb off n m : Nat} {A B : Nat → Int} {w wr : World} {V U : Int → Int}

theorem Mem.drewN (h : Mem bs ba bb' bf bb la lb off n m A B w wr V U) (q : Nat) : Mem bs ba bb' bf bb la lb off n m A B w (wr.drewN q) V U :=
  ⟨h.cN, h.cM, h.cO, h.c0, h.c1, h.hA, h.hB, h.rV, h.rU, h.bV, h.bU, fun C h1 h2 => bel_drewN (h.bel C h1 h2) q⟩

theorem far {p a : Addr} (v : Value) (h : p.block ≠ a.block) : (wr.setCell p v).cell? a = wr.cell? a := World.cell?_setCell_other _ _ _ _ (fun e => h (by rw [e]))

theorem row_upd {b : Nat} {f : Int → Int} (h : wr.rowIs b 3 (2 * off + 1) (fun j => .int .i64 (f ((j : Int) - off)))) {K x : Int} (hK : -(off : Int) ≤ K) :
    (wr.setCell ⟨b, ((off : Int) + K).toNat, none⟩ (.int .i64 x)).rowIs b 3 (2 * off + 1) (fun j => .int .i64 (upd f K x ((j : Int) - off))) := by
  refine (h.set ((off : Int) + K).toNat (.int .i64 x)).congr (fun j hj => ?_)
  by_cases e : j = ((off : Int) + K).toNat
  · have e2 : (j : Int) - off = K := by omega
    rw [if_pos e, e2, upd_same]
  · rw [if_neg e, upd_other f x (by omega)]

theorem Mem.storeF (h : Mem bs ba bb' bf bb la lb off n m A B w wr V U) (ap : Apart bs ba bb' bf bb w.heap.size) {K x : Int} (hK : -(off : Int) ≤ K) (hx : -1 ≤ x ∧ x ≤ 300) :
    Mem bs ba bb' bf bb la lb off n m A B w (wr.setCell ⟨bf, ((off : Int) + K).toNat, none⟩ (.int .i64 x)) (upd V K x) U := by
  have z4 := ap.z4
  refine ⟨?_, ?_, ?_, ?_, ?_, fun i hi => ?_, fun i hi => ?_, row_upd h.rV hK, h.rU.setOther ap.n1.symm _, upd_bd h.bV hx, h.bU, fun C h1 h2 => (h.bel C h1 h2).setCell h1 _⟩
  · rw [far _ (by simp; omega)]; exact h.cN
  · rw [far _ (by simp; omega)]; exact h.cM
  · rw [far _ (by simp; omega)]; exact h.cO
  · rw [far _ (by simpa using ap.n2.symm)]; exact h.c0
  · rw [far _ (by simpa using ap.n2.symm)]; exact h.c1
  · rw [far _ (by simpa using ap.n4.symm)]; exact h.hA i hi
  · rw [far _ (by simpa using ap.n6.symm)]; exact h.hB i hi

theorem Mem.storeB (h : Mem bs ba bb' bf bb la lb off n m A B w wr V U) (ap : Apart bs ba bb' bf bb w.heap.size) {K x : Int} (hK : -(off : Int) ≤ K) (hx : -1 ≤ x ∧ x ≤ 300) :
    Mem bs ba bb' bf bb la lb off n m A B w (wr.setCell ⟨bb, ((off : Int) + K).toNat, none⟩ (.int .i64 x)) V (upd U K x) := by
  have z5 := ap.z5
  refine ⟨?_, ?_, ?_, ?_, ?_, fun i hi => ?_, fun i hi => ?_, h.rV.setOther ap.n1 _, row_upd h.rU hK, h.bV, upd_bd h.bU hx, fun C h1 h2 => (h.bel C h1 h2).setCell h2 _⟩
  · rw [far _ (by simp; omega)]; exact h.cN
  · rw [far _ (by simp; omega)]; exact h.cM
  · rw [far _ (by simp; omega)]; exact h.cO
  · rw [far _ (by simpa using ap.n3.symm)]; exact h.c0
  · rw [far _ (by simpa using ap.n3.symm)]; exact h.c1
  · rw [far _ (by simpa using ap.n5.symm)]; exact h.hA i hi
  · rw [far _ (by simpa using ap.n7.symm)]; exact h.hB i hi

theorem Mem.start (c0 : w.cell? ⟨bs, 0, none⟩ = some (.slice (some ⟨ba, 0, none⟩) la la)) (c1 : w.cell? ⟨bs, 1, none⟩ = some (.slice (some ⟨bb', 0, none⟩) lb lb))
    (hA : ∀ i, i < la → w.cell? ⟨ba, i, none⟩ = some (.int .u8 (A i))) (hB : ∀ i, i < lb → w.cell? ⟨bb', i, none⟩ = some (.int .u8 (B i)))
    (hV : w.rowIs bf 3 (2 * off + 1) (fun j => .int .i64 (V ((j : Int) - off)))) (hU : w.rowIs bb 3 (2 * off + 1) (fun j => .int .i64 (U ((j : Int) - off))))
    (hVb : ∀ j, -1 ≤ V j ∧ V j ≤ 300) (hUb : ∀ j, -1 ≤ U j ∧ U j ≤ 300) (ap : Apart bs ba bb' bf bb w.heap.size) :
    Mem bs ba bb' bf bb la lb off n m A B w ((((w.alloc (.cells #[.int .i64 n] 3)).alloc (.cells #[.int .i64 m] 3)).alloc (.cells #[.int .i64 off] 3)).drew) V U := by
  have z1 := ap.z1
  have z2 := ap.z2
  have z3 := ap.z3
  have old : ∀ b i, b < w.heap.size → (((w.alloc (.cells #[.int .i64 n] 3)).alloc (.cells #[.int .i64 m] 3)).alloc (.cells #[.int .i64 off] 3)).cell? ⟨b, i, none⟩ = w.cell? ⟨b, i, none⟩ := fun b i hb => by
    rw [World.cell?_alloc_past _ _ _ (by simp; omega), World.cell?_alloc_past _ _ _ (by simp; omega), World.cell?_alloc_past _ _ _ hb]
  refine ⟨?_, ?_, ?_, ?_, ?_, fun i hi => ?_, fun i hi => ?_, ((hV.alloc _).alloc _).alloc _, ((hU.alloc _).alloc _).alloc _, hVb, hUb, fun C h1 h2 => ?_⟩
  · show (((w.alloc _).alloc _).alloc _).cell? _ = _
    rw [World.cell?_alloc_past _ _ _ (by simp; omega), World.cell?_alloc_past _ _ _ (by simp), World.cell?_alloc_at _ _ _ _ rfl]; rfl
  · show (((w.alloc _).alloc _).alloc _).cell? _ = _
    rw [World.cell?_alloc_past _ _ _ (by simp), World.cell?_alloc_at _ _ _ _ (by simp)]; rfl
  · show (((w.alloc _).alloc _).alloc _).cell? _ = _
    rw [World.cell?_alloc_at _ _ _ _ (by simp)]; rfl
  · exact (old _ _ z1).trans c0
  · exact (old _ _ z1).trans c1
  · exact (old _ _ z2).trans (hA i hi)
  · exact (old _ _ z3).trans (hB i hi)
  · have z4 := ap.z4
    exact ((((Below.refl _ _).alloc (by omega) _).alloc (by simp; omega) _).alloc (by simp; omega) _).drew
end

end Go.Proofs.Ybulkkyu.ASplit
