/- LawS0579ASplitKeepsLCS: the inner loops of middle (10). -/
import Derived.Test.YbulkkyuASlideF
namespace Go.Proofs.Ybulkkyu.ASplit
open Go.RowKit Lcs
set_option linter.unusedVariables false

set_option maxRecDepth 100000 in
set_option maxHeartbeats 2000000 in
theorem slideB (bs ba bb' bf bb la lb off a0 a1 b0 b1 n m : Nat) (A B : Nat → Int) (E : Nat → Nat → Bool) (odd : Bool) (V U : Int → Int) (w wr : World) (D : Nat) (K : Int) (X0 : Nat) (Q : Exit → Act → World → Prop) (s5 s6 s7 s8 s9 s10 s11 s21 s22 s23 s26 s27 s28 s29 s30 s31 s32 s33 s34 s35 s36 s37 s38 s39 s40 s41 s42 s43 s44 s45 s46 s47 s48 s49 s50 s51 s52 s53 s54 s55 s56 s57 s58 s59 s60 s61 s62 s63 s64 s65 s66 s67 s68 s69 s70 s71 s72 s73 s74 s75 s76 s77 s78 s79 s80 s81 s82 s83 s84 s85 s86 s87 s88 s89 s90 s91 s92 s93 s94 s95 s96 s97 s98 s99 s100 s101 s102 s103 s104 s105 s106 s107 s108 s109 s110 s111 s112 s113 s114 s115 s116 s117 s118 s119 s120 s121 s122 s123 s124 s125 s126 s127 s128 s129 s130 s131 s132 s133 s134 s135 s136 s137 s138 s139 s140 s141 s142 s143 s144 s145 s146 s147 s148 s149 s150 s151 s152 s153 s154 s155 s156 s157 s158 s159 s160 s161 s162 s163 s164 s165 s166 s167 s168 s169 s170 s171 s172 s173 s174 s175 s176 s177 s178 s179 s180 s181 s182 s183 s184 s185 s186 s187 s188 s189 s190 s191 s192 s193 s194 s195 s196 s197 s198 s199 s200 s201 s202 s203 s204 s205 s206 s207 s208 s209 s210 s211 s212 s213 s214 s215 s216 s217 s218 s219 s220 s221 s222 s223 s224 s225 s226 s227 s228 s229 s230 s231 s232 s233 s234 s235 s236 s237 s238 s239 s240 s241 s242 s243 s244 s245 s246 s247 s248 s249 s250 s251 s252 s253 s254 s255 s256 s257 s258 s259 s260 s261 s262 s263 s264 s265 s266 s267 s268 s269 s270 : Value)
    (hla : la ≤ 300) (hlb : lb ≤ 300) (hoff : off ≤ 300) (hnm : (n + m + 1) / 2 ≤ off) (e1 : (a1 : Int) - a0 = n) (e2 : (b1 : Int) - b0 = m) (h2 : a1 ≤ la) (h4 : b1 ≤ lb) (bn : n ≤ 300) (bm : m ≤ 300) (hE : ∀ p q, E p q = (A (a0 + p) == B (b0 + q))) (hS : SndAt (rev E n m) n m D K X0) (hM : Mem bs ba bb' bf bb la lb off n m A B w wr V U) (hK1 : -(D : Int) ≤ K) (hK2 : K ≤ D) (hDo : D ≤ off)
    (hexit : Hid (∀ (t173 t174 t175 t176 t177 t178 t179 t180 t181 t182 t183 t184 t185 t186 t187 t188 t189 t190 t191 t192 t193 t194 t195 t196 t197 t198 t199 t200 t201 t202 t203 t204 t205 t206 t207 t208 t209 : Value) (X : Nat) (w' : World), SndAt (rev E n m) n m D K X → X0 ≤ X → Stuck (rev E n m) n m K X → Mem bs ba bb' bf bb la lb off n m A B w w' V U → Q (.exit 8) ⟨List.toArray (.pointer (some ⟨bs, 0, none⟩) :: .int .i64 a0 :: .int .i64 a1 :: .int .i64 b0 :: .int .i64 b1 :: s5 :: s6 :: s7 :: s8 :: s9 :: s10 :: s11 :: .pointer (some ⟨w.heap.size, 0, none⟩) :: .pointer (some ⟨w.heap.size + 1, 0, none⟩) :: .int .i64 ((n : Int) - (m : Int)) :: .bool odd :: .slice (some ⟨bf, 0, none⟩) (2 * off + 1) (2 * off + 1) :: .slice (some ⟨bb, 0, none⟩) (2 * off + 1) (2 * off + 1) :: .pointer (some ⟨w.heap.size + 1 + 1, 0, none⟩) :: .func (Fn.func 19) #[] #[.pointer (some ⟨w.heap.size + 1 + 1, 0, none⟩), .pointer (some ⟨w.heap.size, 0, none⟩), .pointer (some ⟨w.heap.size + 1, 0, none⟩)] :: .int .i64 (D : Int) :: s21 :: s22 :: s23 :: .int .i64 K :: .int .i64 (X : Int) :: s26 :: s27 :: s28 :: s29 :: s30 :: s31 :: s32 :: s33 :: s34 :: s35 :: s36 :: s37 :: s38 :: s39 :: s40 :: s41 :: s42 :: s43 :: s44 :: s45 :: s46 :: s47 :: s48 :: s49 :: s50 :: s51 :: s52 :: s53 :: s54 :: s55 :: s56 :: s57 :: s58 :: s59 :: s60 :: s61 :: s62 :: s63 :: s64 :: s65 :: s66 :: s67 :: s68 :: s69 :: s70 :: s71 :: s72 :: s73 :: s74 :: s75 :: s76 :: s77 :: s78 :: s79 :: s80 :: s81 :: s82 :: s83 :: s84 :: s85 :: s86 :: s87 :: s88 :: s89 :: s90 :: s91 :: s92 :: s93 :: s94 :: s95 :: s96 :: s97 :: s98 :: s99 :: s100 :: s101 :: s102 :: s103 :: s104 :: s105 :: s106 :: s107 :: s108 :: s109 :: s110 :: s111 :: s112 :: s113 :: s114 :: s115 :: s116 :: s117 :: s118 :: s119 :: s120 :: s121 :: s122 :: s123 :: s124 :: s125 :: s126 :: s127 :: s128 :: s129 :: s130 :: s131 :: s132 :: s133 :: s134 :: s135 :: s136 :: s137 :: s138 :: s139 :: s140 :: s141 :: s142 :: s143 :: s144 :: s145 :: s146 :: s147 :: s148 :: s149 :: s150 :: s151 :: s152 :: s153 :: s154 :: s155 :: s156 :: s157 :: s158 :: s159 :: s160 :: s161 :: s162 :: s163 :: s164 :: s165 :: s166 :: s167 :: s168 :: s169 :: s170 :: s171 :: s172 :: t173 :: t174 :: t175 :: t176 :: t177 :: t178 :: t179 :: t180 :: t181 :: t182 :: t183 :: t184 :: t185 :: t186 :: t187 :: t188 :: t189 :: t190 :: t191 :: t192 :: t193 :: t194 :: t195 :: t196 :: t197 :: t198 :: t199 :: t200 :: t201 :: t202 :: t203 :: t204 :: t205 :: t206 :: t207 :: t208 :: t209 :: s210 :: s211 :: s212 :: s213 :: s214 :: s215 :: s216 :: s217 :: s218 :: s219 :: s220 :: s221 :: s222 :: s223 :: s224 :: s225 :: s226 :: s227 :: s228 :: s229 :: s230 :: s231 :: s232 :: s233 :: s234 :: s235 :: s236 :: s237 :: s238 :: s239 :: s240 :: s241 :: s242 :: s243 :: s244 :: s245 :: s246 :: s247 :: s248 :: s249 :: s250 :: s251 :: s252 :: s253 :: s254 :: s255 :: s256 :: s257 :: s258 :: s259 :: s260 :: s261 :: s262 :: s263 :: s264 :: s265 :: s266 :: s267 :: s268 :: s269 :: s270 :: []), []⟩ w')) :
    Code.wp Yba.prog (Code.loop (((Yba.f10.body.map loops).getD []).getD 4 .skip)) Q ⟨List.toArray (.pointer (some ⟨bs, 0, none⟩) :: .int .i64 a0 :: .int .i64 a1 :: .int .i64 b0 :: .int .i64 b1 :: s5 :: s6 :: s7 :: s8 :: s9 :: s10 :: s11 :: .pointer (some ⟨w.heap.size, 0, none⟩) :: .pointer (some ⟨w.heap.size + 1, 0, none⟩) :: .int .i64 ((n : Int) - (m : Int)) :: .bool odd :: .slice (some ⟨bf, 0, none⟩) (2 * off + 1) (2 * off + 1) :: .slice (some ⟨bb, 0, none⟩) (2 * off + 1) (2 * off + 1) :: .pointer (some ⟨w.heap.size + 1 + 1, 0, none⟩) :: .func (Fn.func 19) #[] #[.pointer (some ⟨w.heap.size + 1 + 1, 0, none⟩), .pointer (some ⟨w.heap.size, 0, none⟩), .pointer (some ⟨w.heap.size + 1, 0, none⟩)] :: .int .i64 (D : Int) :: s21 :: s22 :: s23 :: .int .i64 K :: .int .i64 (X0 : Int) :: s26 :: s27 :: s28 :: s29 :: s30 :: s31 :: s32 :: s33 :: s34 :: s35 :: s36 :: s37 :: s38 :: s39 :: s40 :: s41 :: s42 :: s43 :: s44 :: s45 :: s46 :: s47 :: s48 :: s49 :: s50 :: s51 :: s52 :: s53 :: s54 :: s55 :: s56 :: s57 :: s58 :: s59 :: s60 :: s61 :: s62 :: s63 :: s64 :: s65 :: s66 :: s67 :: s68 :: s69 :: s70 :: s71 :: s72 :: s73 :: s74 :: s75 :: s76 :: s77 :: s78 :: s79 :: s80 :: s81 :: s82 :: s83 :: s84 :: s85 :: s86 :: s87 :: s88 :: s89 :: s90 :: s91 :: s92 :: s93 :: s94 :: s95 :: s96 :: s97 :: s98 :: s99 :: s100 :: s101 :: s102 :: s103 :: s104 :: s105 :: s106 :: s107 :: s108 :: s109 :: s110 :: s111 :: s112 :: s113 :: s114 :: s115 :: s116 :: s117 :: s118 :: s119 :: s120 :: s121 :: s122 :: s123 :: s124 :: s125 :: s126 :: s127 :: s128 :: s129 :: s130 :: s131 :: s132 :: s133 :: s134 :: s135 :: s136 :: s137 :: s138 :: s139 :: s140 :: s141 :: s142 :: s143 :: s144 :: s145 :: s146 :: s147 :: s148 :: s149 :: s150 :: s151 :: s152 :: s153 :: s154 :: s155 :: s156 :: s157 :: s158 :: s159 :: s160 :: s161 :: s162 :: s163 :: s164 :: s165 :: s166 :: s167 :: s168 :: s169 :: s170 :: s171 :: s172 :: s173 :: s174 :: s175 :: s176 :: s177 :: s178 :: s179 :: s180 :: s181 :: s182 :: s183 :: s184 :: s185 :: s186 :: s187 :: s188 :: s189 :: s190 :: s191 :: s192 :: s193 :: s194 :: s195 :: s196 :: s197 :: s198 :: s199 :: s200 :: s201 :: s202 :: s203 :: s204 :: s205 :: s206 :: s207 :: s208 :: s209 :: s210 :: s211 :: s212 :: s213 :: s214 :: s215 :: s216 :: s217 :: s218 :: s219 :: s220 :: s221 :: s222 :: s223 :: s224 :: s225 :: s226 :: s227 :: s228 :: s229 :: s230 :: s231 :: s232 :: s233 :: s234 :: s235 :: s236 :: s237 :: s238 :: s239 :: s240 :: s241 :: s242 :: s243 :: s244 :: s245 :: s246 :: s247 :: s248 :: s249 :: s250 :: s251 :: s252 :: s253 :: s254 :: s255 :: s256 :: s257 :: s258 :: s259 :: s260 :: s261 :: s262 :: s263 :: s264 :: s265 :: s266 :: s267 :: s268 :: s269 :: s270 :: []), []⟩ wr := by
  have HE := (show Hid _ from hE)
  clear hE
  conv =>
    arg 2
    arg 1
    whnf
  go_loopw [25] (fun x wr => ∃ X : Nat, x = .int .i64 X ∧ SndAt (rev E n m) n m D K X ∧ X0 ≤ X ∧ Mem bs ba bb' bf bb la lb off n m A B w wr V U) (fun x _ => n - (intOf x).toNat)
  case atStart => exact ⟨X0, rfl, hS, Nat.le_refl _, hM⟩
  case round =>
    clear hS hM
    obtain ⟨X, rfl, hS, hX0, hM⟩ := hrel
    have hS' := hS
    rcases hS' with hS' | ⟨X', Y, eX, eY, hXn, hYm, _⟩
    · omega
    have eX' : X' = X := by omega
    subst eX'
    clear eX
    have cN := hM.cN
    have cM := hM.cM
    have c0 := hM.c0
    have c1 := hM.c1
    by_cases hx : X' < n
    · by_cases hy : Y < m
      · have ca : wr.cell? ⟨ba, a1 - 1 - X', none⟩ = some (.int .u8 (A (a0 + (n - 1 - X')))) := by
          rw [show a1 - 1 - X' = a0 + (n - 1 - X') by omega]; exact hM.hA _ (by omega)
        have cb : wr.cell? ⟨bb', ((b1 : Int) - 1 - X' + K).toNat, none⟩ = some (.int .u8 (B (b0 + (m - 1 - Y)))) := by
          rw [show ((b1 : Int) - 1 - X' + K).toNat = b0 + (m - 1 - Y) by omega]; exact hM.hB _ (by omega)
        have i1 : (X' : Int) < (n : Int) := by omega
        have i2 : (X' : Int) - K < (m : Int) := by omega
        have i3 : (a1 : Int) - 1 - X' < (la : Int) := by omega
        have i6 : 0 ≤ (a1 : Int) - 1 - X' := by omega
        have i4 : (b1 : Int) - 1 - X' + K < (lb : Int) := by omega
        have i5 : 0 ≤ (b1 : Int) - 1 - X' + K := by omega
        by_cases he : (A (a0 + (n - 1 - X')) == B (b0 + (m - 1 - Y))) = true
        · have HN := (show Hid _ from slide_sound hS eY hx hy (by show E (n - 1 - X') (m - 1 - Y) = true; rw [HE.out]; exact he))
          have HM := (show Hid _ from hM)
          clear hM hS eY
          go_wp2
          go_quiet (fail)
          go_wp2
          go_roundw
          case rel => exact ⟨X' + 1, by go_num, HN.out, by omega, HM.out.drewN _⟩
          case measure => simp [intOf]; omega
        · have he' : (A (a0 + (n - 1 - X')) == B (b0 + (m - 1 - Y))) = false := by simpa using he
          have HS : Hid (Stuck (rev E n m) n m K X') := fun x y e1 e2 _ _ => by
            have e3 : x = X' := by omega
            have e4 : y = Y := by omega
            rw [e3, e4]; show E (n - 1 - X') (m - 1 - Y) = false; rw [HE.out]; exact he'
          have HM := (show Hid _ from hM)
          have HN := (show Hid _ from hS)
          clear he hM hS eY
          go_wp2
          go_quiet (fail)
          go_wp2
          exact hexit.out _ _ _ _ _ _ _ _ _ _ _ _ _ _ _ _ _ _ _ _ _ _ _ _ _ _ _ _ _ _ _ _ _ _ _ _ _ _ _ HN.out hX0 HS.out (HM.out.drewN _)
      · have i1 : (X' : Int) < (n : Int) := by omega
        have i2 : decide ((X' : Int) - K < (m : Int)) = false := by simp; omega
        have HS : Hid (Stuck (rev E n m) n m K X') := fun x y e1 e2 _ _ => by omega
        have HM := (show Hid _ from hM)
        have HN := (show Hid _ from hS)
        clear hM hS eY
        go_wp2
        go_quiet (fail)
        go_wp2
        exact hexit.out _ _ _ _ _ _ _ _ _ _ _ _ _ _ _ _ _ _ _ _ _ _ _ _ _ _ _ _ _ _ _ _ _ _ _ _ _ _ _ HN.out hX0 HS.out (HM.out.drewN _)
    · have i1 : decide ((X' : Int) < (n : Int)) = false := by simp; omega
      have HS : Hid (Stuck (rev E n m) n m K X') := fun x y e1 e2 _ _ => by omega
      have HM := (show Hid _ from hM)
      have HN := (show Hid _ from hS)
      clear hM hS eY
      go_wp2
      go_quiet (fail)
      go_wp2
      exact hexit.out _ _ _ _ _ _ _ _ _ _ _ _ _ _ _ _ _ _ _ _ _ _ _ _ _ _ _ _ _ _ _ _ _ _ _ _ _ _ _ HN.out hX0 HS.out (HM.out.drewN _)

end Go.Proofs.Ybulkkyu.ASplit
