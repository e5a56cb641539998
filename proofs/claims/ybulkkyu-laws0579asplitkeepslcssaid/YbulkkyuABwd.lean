/- LawS0579ASplitKeepsLCS: the backward loop of middle (10). -/
import Derived.Test.YbulkkyuAFwd
namespace Go.Proofs.Ybulkkyu.ASplit
open Go.RowKit Lcs
set_option linter.unusedVariables false

set_option maxRecDepth 100000 in
set_option maxHeartbeats 4000000 in
theorem bwdLoop (bs ba bb' bf bb la lb off a0 a1 b0 b1 n m : Nat) (A B : Nat → Int) (E : Nat → Nat → Bool) (odd : Bool) (V U : Int → Int) (w wr : World) (D : Nat) (Q : Exit → Act → World → Prop) (s5 s6 s7 s8 s9 s10 s11 s21 s22 s23 s25 s26 s27 s28 s29 s30 s31 s32 s33 s34 s35 s36 s37 s38 s39 s40 s41 s42 s43 s44 s45 s46 s47 s48 s49 s50 s51 s52 s53 s54 s55 s56 s57 s58 s59 s60 s61 s62 s63 s64 s65 s66 s67 s68 s69 s70 s71 s72 s73 s74 s75 s76 s77 s78 s79 s80 s81 s82 s83 s84 s85 s86 s87 s88 s89 s90 s91 s92 s93 s94 s95 s96 s97 s98 s99 s100 s101 s102 s103 s104 s105 s106 s107 s108 s109 s110 s111 s112 s113 s114 s115 s116 s117 s118 s119 s120 s121 s122 s123 s124 s125 s126 s127 s128 s129 s130 s131 s132 s133 s134 s135 s136 s137 s138 s139 s140 s141 s142 s143 s144 s145 s146 s147 s148 s149 s150 s151 s152 s153 s154 s155 s156 s157 s158 s159 s160 s161 s162 s163 s164 s165 s166 s167 s168 s169 s170 s171 s172 s173 s174 s175 s176 s177 s178 s179 s180 s181 s182 s183 s184 s185 s186 s187 s188 s189 s190 s191 s192 s193 s194 s195 s196 s197 s198 s199 s200 s201 s202 s203 s204 s205 s206 s207 s208 s209 s210 s211 s212 s213 s214 s215 s216 s217 s218 s219 s220 s221 s222 s223 s224 s225 s226 s227 s228 s229 s230 s231 s232 s233 s234 s235 s236 s237 s238 s239 s240 s241 s242 s243 s244 s245 s246 s247 s248 s249 s250 s251 s252 s253 s254 s255 s256 s257 s258 s259 s260 s261 s262 s263 s264 s265 s266 s267 s268 s269 s270 : Value)
    (hla : la ≤ 300) (hlb : lb ≤ 300) (hoff : off ≤ 300) (hnm : (n + m + 1) / 2 ≤ off) (e1 : (a1 : Int) - a0 = n) (e2 : (b1 : Int) - b0 = m) (h2 : a1 ≤ la) (h4 : b1 ≤ lb) (bn : n ≤ 300) (bm : m ≤ 300) (hE : ∀ p q, E p q = (A (a0 + p) == B (b0 + q))) (ap : Apart bs ba bb' bf bb w.heap.size) (hF : Bwd E n m D (-(D : Int)) V U) (hM : Mem bs ba bb' bf bb la lb off n m A B w wr V U) (hDo : D ≤ off) (hodd : Hid ((((n : Int) - m).tmod 2 != 0) = odd))
    (hexit : Hid (∀ (t10 t11 t25 t26 t161 t162 t163 t164 t165 t166 t167 t168 t169 t170 t171 t172 t173 t174 t175 t176 t177 t178 t179 t180 t181 t182 t183 t184 t185 t186 t187 t188 t189 t190 t191 t192 t193 t194 t195 t196 t197 t198 t199 t200 t201 t202 t203 t204 t205 t206 t207 t208 t209 t210 t211 t212 t213 t214 t215 t216 t217 t218 t219 t220 t221 t222 t223 t224 t225 t226 t227 t228 t229 t230 t231 t232 t233 t234 t235 t236 t237 t238 t239 t240 t241 t242 t243 t244 t245 t246 t247 t248 t249 t250 t251 t252 t253 t254 t255 : Value) (K : Int) (V U : Int → Int) (w' : World), (D : Int) < K → Bwd E n m D K V U → Mem bs ba bb' bf bb la lb off n m A B w w' V U → Q (.exit 6) ⟨List.toArray (.pointer (some ⟨bs, 0, none⟩) :: .int .i64 a0 :: .int .i64 a1 :: .int .i64 b0 :: .int .i64 b1 :: s5 :: s6 :: s7 :: s8 :: s9 :: t10 :: t11 :: .pointer (some ⟨w.heap.size, 0, none⟩) :: .pointer (some ⟨w.heap.size + 1, 0, none⟩) :: .int .i64 ((n : Int) - (m : Int)) :: .bool odd :: .slice (some ⟨bf, 0, none⟩) (2 * off + 1) (2 * off + 1) :: .slice (some ⟨bb, 0, none⟩) (2 * off + 1) (2 * off + 1) :: .pointer (some ⟨w.heap.size + 1 + 1, 0, none⟩) :: .func (Fn.func 19) #[] #[.pointer (some ⟨w.heap.size + 1 + 1, 0, none⟩), .pointer (some ⟨w.heap.size, 0, none⟩), .pointer (some ⟨w.heap.size + 1, 0, none⟩)] :: .int .i64 (D : Int) :: s21 :: s22 :: s23 :: .int .i64 K :: t25 :: t26 :: s27 :: s28 :: s29 :: s30 :: s31 :: s32 :: s33 :: s34 :: s35 :: s36 :: s37 :: s38 :: s39 :: s40 :: s41 :: s42 :: s43 :: s44 :: s45 :: s46 :: s47 :: s48 :: s49 :: s50 :: s51 :: s52 :: s53 :: s54 :: s55 :: s56 :: s57 :: s58 :: s59 :: s60 :: s61 :: s62 :: s63 :: s64 :: s65 :: s66 :: s67 :: s68 :: s69 :: s70 :: s71 :: s72 :: s73 :: s74 :: s75 :: s76 :: s77 :: s78 :: s79 :: s80 :: s81 :: s82 :: s83 :: s84 :: s85 :: s86 :: s87 :: s88 :: s89 :: s90 :: s91 :: s92 :: s93 :: s94 :: s95 :: s96 :: s97 :: s98 :: s99 :: s100 :: s101 :: s102 :: s103 :: s104 :: s105 :: s106 :: s107 :: s108 :: s109 :: s110 :: s111 :: s112 :: s113 :: s114 :: s115 :: s116 :: s117 :: s118 :: s119 :: s120 :: s121 :: s122 :: s123 :: s124 :: s125 :: s126 :: s127 :: s128 :: s129 :: s130 :: s131 :: s132 :: s133 :: s134 :: s135 :: s136 :: s137 :: s138 :: s139 :: s140 :: s141 :: s142 :: s143 :: s144 :: s145 :: s146 :: s147 :: s148 :: s149 :: s150 :: s151 :: s152 :: s153 :: s154 :: s155 :: s156 :: s157 :: s158 :: s159 :: s160 :: t161 :: t162 :: t163 :: t164 :: t165 :: t166 :: t167 :: t168 :: t169 :: t170 :: t171 :: t172 :: t173 :: t174 :: t175 :: t176 :: t177 :: t178 :: t179 :: t180 :: t181 :: t182 :: t183 :: t184 :: t185 :: t186 :: t187 :: t188 :: t189 :: t190 :: t191 :: t192 :: t193 :: t194 :: t195 :: t196 :: t197 :: t198 :: t199 :: t200 :: t201 :: t202 :: t203 :: t204 :: t205 :: t206 :: t207 :: t208 :: t209 :: t210 :: t211 :: t212 :: t213 :: t214 :: t215 :: t216 :: t217 :: t218 :: t219 :: t220 :: t221 :: t222 :: t223 :: t224 :: t225 :: t226 :: t227 :: t228 :: t229 :: t230 :: t231 :: t232 :: t233 :: t234 :: t235 :: t236 :: t237 :: t238 :: t239 :: t240 :: t241 :: t242 :: t243 :: t244 :: t245 :: t246 :: t247 :: t248 :: t249 :: t250 :: t251 :: t252 :: t253 :: t254 :: t255 :: s256 :: s257 :: s258 :: s259 :: s260 :: s261 :: s262 :: s263 :: s264 :: s265 :: s266 :: s267 :: s268 :: s269 :: s270 :: []), []⟩ w'))
    (hret : Hid (∀ (t24 t25 t26 t161 t162 t163 t164 t165 t166 t167 t168 t169 t170 t171 t172 t173 t174 t175 t176 t177 t178 t179 t180 t181 t182 t183 t184 t185 t186 t187 t188 t189 t190 t191 t192 t193 t194 t195 t196 t197 t198 t199 t200 t201 t202 t203 t204 t205 t206 t207 t208 t209 t210 t211 t212 t213 t214 t215 t216 t217 t218 t219 t220 t221 t222 t223 t224 t225 t226 t227 t228 t229 t230 t231 t232 t233 t234 t235 t236 t237 t238 t239 t240 t241 t242 t243 t244 t245 t246 t247 t248 t249 t250 t251 t252 t253 t254 t255 : Value) (p q : Int) (X Y : Nat) (w' : World), p = a0 + X → q = b0 + Y → Opt E n m X Y → (∀ C, C ≤ bf → C ≤ bb → Below C w w') → Q .ret ⟨List.toArray (.pointer (some ⟨bs, 0, none⟩) :: .int .i64 a0 :: .int .i64 a1 :: .int .i64 b0 :: .int .i64 b1 :: s5 :: s6 :: s7 :: s8 :: s9 :: .int .i64 p :: .int .i64 q :: .pointer (some ⟨w.heap.size, 0, none⟩) :: .pointer (some ⟨w.heap.size + 1, 0, none⟩) :: .int .i64 ((n : Int) - (m : Int)) :: .bool odd :: .slice (some ⟨bf, 0, none⟩) (2 * off + 1) (2 * off + 1) :: .slice (some ⟨bb, 0, none⟩) (2 * off + 1) (2 * off + 1) :: .pointer (some ⟨w.heap.size + 1 + 1, 0, none⟩) :: .func (Fn.func 19) #[] #[.pointer (some ⟨w.heap.size + 1 + 1, 0, none⟩), .pointer (some ⟨w.heap.size, 0, none⟩), .pointer (some ⟨w.heap.size + 1, 0, none⟩)] :: .int .i64 (D : Int) :: s21 :: s22 :: s23 :: t24 :: t25 :: t26 :: s27 :: s28 :: s29 :: s30 :: s31 :: s32 :: s33 :: s34 :: s35 :: s36 :: s37 :: s38 :: s39 :: s40 :: s41 :: s42 :: s43 :: s44 :: s45 :: s46 :: s47 :: s48 :: s49 :: s50 :: s51 :: s52 :: s53 :: s54 :: s55 :: s56 :: s57 :: s58 :: s59 :: s60 :: s61 :: s62 :: s63 :: s64 :: s65 :: s66 :: s67 :: s68 :: s69 :: s70 :: s71 :: s72 :: s73 :: s74 :: s75 :: s76 :: s77 :: s78 :: s79 :: s80 :: s81 :: s82 :: s83 :: s84 :: s85 :: s86 :: s87 :: s88 :: s89 :: s90 :: s91 :: s92 :: s93 :: s94 :: s95 :: s96 :: s97 :: s98 :: s99 :: s100 :: s101 :: s102 :: s103 :: s104 :: s105 :: s106 :: s107 :: s108 :: s109 :: s110 :: s111 :: s112 :: s113 :: s114 :: s115 :: s116 :: s117 :: s118 :: s119 :: s120 :: s121 :: s122 :: s123 :: s124 :: s125 :: s126 :: s127 :: s128 :: s129 :: s130 :: s131 :: s132 :: s133 :: s134 :: s135 :: s136 :: s137 :: s138 :: s139 :: s140 :: s141 :: s142 :: s143 :: s144 :: s145 :: s146 :: s147 :: s148 :: s149 :: s150 :: s151 :: s152 :: s153 :: s154 :: s155 :: s156 :: s157 :: s158 :: s159 :: s160 :: t161 :: t162 :: t163 :: t164 :: t165 :: t166 :: t167 :: t168 :: t169 :: t170 :: t171 :: t172 :: t173 :: t174 :: t175 :: t176 :: t177 :: t178 :: t179 :: t180 :: t181 :: t182 :: t183 :: t184 :: t185 :: t186 :: t187 :: t188 :: t189 :: t190 :: t191 :: t192 :: t193 :: t194 :: t195 :: t196 :: t197 :: t198 :: t199 :: t200 :: t201 :: t202 :: t203 :: t204 :: t205 :: t206 :: t207 :: t208 :: t209 :: t210 :: t211 :: t212 :: t213 :: t214 :: t215 :: t216 :: t217 :: t218 :: t219 :: t220 :: t221 :: t222 :: t223 :: t224 :: t225 :: t226 :: t227 :: t228 :: t229 :: t230 :: t231 :: t232 :: t233 :: t234 :: t235 :: t236 :: t237 :: t238 :: t239 :: t240 :: t241 :: t242 :: t243 :: t244 :: t245 :: t246 :: t247 :: t248 :: t249 :: t250 :: t251 :: t252 :: t253 :: t254 :: t255 :: s256 :: s257 :: s258 :: s259 :: s260 :: s261 :: s262 :: s263 :: s264 :: s265 :: s266 :: s267 :: s268 :: s269 :: s270 :: []), []⟩ w')) :
    Code.wp Yba.prog (Code.loop (((Yba.f10.body.map loops).getD []).getD 3 .skip)) Q ⟨List.toArray (.pointer (some ⟨bs, 0, none⟩) :: .int .i64 a0 :: .int .i64 a1 :: .int .i64 b0 :: .int .i64 b1 :: s5 :: s6 :: s7 :: s8 :: s9 :: s10 :: s11 :: .pointer (some ⟨w.heap.size, 0, none⟩) :: .pointer (some ⟨w.heap.size + 1, 0, none⟩) :: .int .i64 ((n : Int) - (m : Int)) :: .bool odd :: .slice (some ⟨bf, 0, none⟩) (2 * off + 1) (2 * off + 1) :: .slice (some ⟨bb, 0, none⟩) (2 * off + 1) (2 * off + 1) :: .pointer (some ⟨w.heap.size + 1 + 1, 0, none⟩) :: .func (Fn.func 19) #[] #[.pointer (some ⟨w.heap.size + 1 + 1, 0, none⟩), .pointer (some ⟨w.heap.size, 0, none⟩), .pointer (some ⟨w.heap.size + 1, 0, none⟩)] :: .int .i64 (D : Int) :: s21 :: s22 :: s23 :: .int .i64 (-(D : Int)) :: s25 :: s26 :: s27 :: s28 :: s29 :: s30 :: s31 :: s32 :: s33 :: s34 :: s35 :: s36 :: s37 :: s38 :: s39 :: s40 :: s41 :: s42 :: s43 :: s44 :: s45 :: s46 :: s47 :: s48 :: s49 :: s50 :: s51 :: s52 :: s53 :: s54 :: s55 :: s56 :: s57 :: s58 :: s59 :: s60 :: s61 :: s62 :: s63 :: s64 :: s65 :: s66 :: s67 :: s68 :: s69 :: s70 :: s71 :: s72 :: s73 :: s74 :: s75 :: s76 :: s77 :: s78 :: s79 :: s80 :: s81 :: s82 :: s83 :: s84 :: s85 :: s86 :: s87 :: s88 :: s89 :: s90 :: s91 :: s92 :: s93 :: s94 :: s95 :: s96 :: s97 :: s98 :: s99 :: s100 :: s101 :: s102 :: s103 :: s104 :: s105 :: s106 :: s107 :: s108 :: s109 :: s110 :: s111 :: s112 :: s113 :: s114 :: s115 :: s116 :: s117 :: s118 :: s119 :: s120 :: s121 :: s122 :: s123 :: s124 :: s125 :: s126 :: s127 :: s128 :: s129 :: s130 :: s131 :: s132 :: s133 :: s134 :: s135 :: s136 :: s137 :: s138 :: s139 :: s140 :: s141 :: s142 :: s143 :: s144 :: s145 :: s146 :: s147 :: s148 :: s149 :: s150 :: s151 :: s152 :: s153 :: s154 :: s155 :: s156 :: s157 :: s158 :: s159 :: s160 :: s161 :: s162 :: s163 :: s164 :: s165 :: s166 :: s167 :: s168 :: s169 :: s170 :: s171 :: s172 :: s173 :: s174 :: s175 :: s176 :: s177 :: s178 :: s179 :: s180 :: s181 :: s182 :: s183 :: s184 :: s185 :: s186 :: s187 :: s188 :: s189 :: s190 :: s191 :: s192 :: s193 :: s194 :: s195 :: s196 :: s197 :: s198 :: s199 :: s200 :: s201 :: s202 :: s203 :: s204 :: s205 :: s206 :: s207 :: s208 :: s209 :: s210 :: s211 :: s212 :: s213 :: s214 :: s215 :: s216 :: s217 :: s218 :: s219 :: s220 :: s221 :: s222 :: s223 :: s224 :: s225 :: s226 :: s227 :: s228 :: s229 :: s230 :: s231 :: s232 :: s233 :: s234 :: s235 :: s236 :: s237 :: s238 :: s239 :: s240 :: s241 :: s242 :: s243 :: s244 :: s245 :: s246 :: s247 :: s248 :: s249 :: s250 :: s251 :: s252 :: s253 :: s254 :: s255 :: s256 :: s257 :: s258 :: s259 :: s260 :: s261 :: s262 :: s263 :: s264 :: s265 :: s266 :: s267 :: s268 :: s269 :: s270 :: []), []⟩ wr := by
  have HE := (show Hid _ from hE)
  have HAp := (show Hid _ from ap)
  clear hE ap
  conv =>
    arg 2
    arg 1
    whnf
  go_loopw [24] (fun k wr => ∃ (K : Int) (V U : Int → Int), k = .int .i64 K ∧ -(D : Int) ≤ K ∧ K ≤ D + 2 ∧ (K - D) % 2 = 0 ∧ Bwd E n m D K V U ∧ Mem bs ba bb' bf bb la lb off n m A B w wr V U) (fun k _ => (D + 2 - intOf k).toNat)
  case atStart => exact ⟨-(D : Int), V, U, rfl, by omega, by omega, by omega, hF, hM⟩
  case round =>
    clear hF hM
    obtain ⟨K, V, U, rfl, hK1, hK2, hKp, hF, hM⟩ := hrel
    by_cases hKD : K ≤ (D : Int)
    · have HA := at_any bb (w.heap.size + 1 + 1) w.heap.size (w.heap.size + 1) off n m K D U wr hoff (by omega) (by omega) (by omega) (by omega) hM.bU hM.rU hM.cO hM.cN hM.cM
      have hac := at_cases n m U K D
      have has := at_sound (e := rev E n m) (n := n) (m := m) (d := D) (k := K) (V := U) (by omega) hK1 hKD hKp hF.okU
      have hstep := fun v => Lcs.step (e := rev E n m) (n := n) (m := m) (d := D) (k := K) (v := v) (V := U) (by omega) hK1 hKD hKp hF.okU
      obtain ⟨x0, hx0⟩ : ∃ x, x = atF n m U K D := ⟨_, rfl⟩
      rw [← hx0] at HA hac has hstep
      clear hx0
      have HH := (show Hid _ from HA)
      have HS := (show Hid _ from has)
      have HT := (show Hid _ from hstep)
      have HF := (show Hid _ from hF)
      have HM := (show Hid _ from hM)
      have hf := hM.rU.frozen ((off : Int) + K).toNat
      have hd := hM.rU.cell (i := ((off : Int) + K).toNat) (by omega)
      have cO := hM.cO
      have HP := (show Hid _ from hKp)
      clear HA has hstep hF hM hKp
      rcases hac with hneg | hpos
      · have HN := (show Hid _ from hneg)
        have hx : x0 < 0 := by omega
        clear hneg
        go_wp2_with fail
        refine Calls.mono HH.out ?_
        rintro e w' ⟨rfl, rfl⟩
        go_wp2
        have hs0 : SndAt (rev E n m) n m D K x0 := .inl HN.out
        have hF2 := HF.out.step HP.out (HT.out x0 hs0 (Int.le_refl _) (by rw [HN.out]; exact stuck_none _ _ _ _)) (fun _ h => by omega)
        have HF2 := (show Hid _ from hF2)
        clear hs0 hF2
        cases odd
        · have hd0 : decide (0 ≤ x0) = false := by simp; omega
          go_quiet (fail)
          go_wp2
          go_roundw
          case rel => exact ⟨K + 2, V, upd U K x0, by go_num, by omega, by omega, by (have := HP.out); omega, HF2.out, (HM.out.storeB HAp.out (by omega) (by (have := HN.out); omega)).drewN _⟩
          case measure => simp [intOf]; omega
        · go_quiet (fail)
          go_wp2
          go_roundw
          case rel => exact ⟨K + 2, V, upd U K x0, by go_num, by omega, by omega, by (have := HP.out); omega, HF2.out, (HM.out.storeB HAp.out (by omega) (by (have := HN.out); omega)).drewN _⟩
          case measure => simp [intOf]; omega
      · obtain ⟨X0, hX0⟩ : ∃ X0 : Nat, x0 = (X0 : Int) := ⟨x0.toNat, by omega⟩
        subst hX0
        have hSs := HS.out hpos
        clear hf hd cO
        go_wp2_with fail
        refine Calls.mono HH.out ?_
        rintro e w' ⟨rfl, rfl⟩
        go_wp2
        refine slideB bs ba bb' bf bb la lb off a0 a1 b0 b1 n m A B E odd V U w _ D K X0 _ _ _ _ _ _ _ _ _ _ _ _ _ _ _ _ _ _ _ _ _ _ _ _ _ _ _ _ _ _ _ _ _ _ _ _ _ _ _ _ _ _ _ _ _ _ _ _ _ _ _ _ _ _ _ _ _ _ _ _ _ _ _ _ _ _ _ _ _ _ _ _ _ _ _ _ _ _ _ _ _ _ _ _ _ _ _ _ _ _ _ _ _ _ _ _ _ _ _ _ _ _ _ _ _ _ _ _ _ _ _ _ _ _ _ _ _ _ _ _ _ _ _ _ _ _ _ _ _ _ _ _ _ _ _ _ _ _ _ _ _ _ _ _ _ _ _ _ _ _ _ _ _ _ _ _ _ _ _ _ _ _ _ _ _ _ _ _ _ _ _ _ _ _ _ _ _ _ _ _ _ _ _ _ _ _ _ _ _ _ _ _ _ _ _ _ _ _ _ _ _ _ _ _ _ _ _ _ _ _ _ _ _ _ _ _ _ _ _ _ _ _ _ _ _ _ _ _ _ _ _ _ _ _ _ _ _ _ _ _ _ _ _ _ _ _ _ _ _ _ _ _ _ _ _ _  hla hlb hoff hnm e1 e2 h2 h4 bn bm HE.out hSs HM.out hK1 hKD hDo (fun t173 t174 t175 t176 t177 t178 t179 t180 t181 t182 t183 t184 t185 t186 t187 t188 t189 t190 t191 t192 t193 t194 t195 t196 t197 t198 t199 t200 t201 t202 t203 t204 t205 t206 t207 t208 t209 X w' hS' hX' hSt hM' => ?_)
        have hf := hM'.rU.frozen ((off : Int) + K).toNat
        have hd := hM'.rU.cell (i := ((off : Int) + K).toNat) (by omega)
        have cO := hM'.cO
        have hXb := sndAt_le hS'
        go_wp2
        obtain ⟨w2, hw2⟩ : ∃ w2, w2 = w'.setCell ⟨bb, ((off : Int) + K).toNat, none⟩ (.int .i64 (X : Int)) := ⟨_, rfl⟩
        have hM2 := hM'.storeB HAp.out (K := K) (x := (X : Int)) (by omega) (by omega)
        rw [← hw2] at hM2 ⊢
        have HM2 := (show Hid _ from hM2)
        have HS' := (show Hid _ from hS')
        have hT := HT.out X hS' (by omega) hSt
        have HT' := (show Hid _ from hT)
        have hub1 := (hM2.bV ((n : Int) - m - K)).1
        have hub2 := (hM2.bV ((n : Int) - m - K)).2
        have cN2 := hM2.cN
        have cO2 := hM2.cO
        have cU : -(D : Int) ≤ (n : Int) - m - K → (n : Int) - m - K ≤ D → w2.cell? ⟨bf, ((off : Int) + ((n : Int) - m - K)).toNat, none⟩ = some (.int .i64 (V ((n : Int) - m - K))) := fun h h' => by
          rw [hM2.rV.cell (by omega), show ((((off : Int) + ((n : Int) - m - K)).toNat : Nat) : Int) - off = (n : Int) - m - K by omega]
        clear hM2 hw2 hd hf cO hM' hS' hSt hT hSs HH HS HT
        cases odd
        · by_cases q1 : -(D : Int) ≤ (n : Int) - m - K
          · by_cases q2 : (n : Int) - m - K ≤ (D : Int)
            · have cU' := cU (by omega) (by omega)
              clear cU
              by_cases q3 : (n : Int) ≤ (X : Int) + V ((n : Int) - m - K)
              · have hMet := HF.out.met HP.out HS'.out ((odd_of hodd).2 rfl) q1 q2 (by omega) q3
                go_quiet (fail)
                go_wp2
                obtain ⟨X1, Y1, g0, g00, g1, g2, g3⟩ := hMet
                exact hret.out _ _ _ _ _ _ _ _ _ _ _ _ _ _ _ _ _ _ _ _ _ _ _ _ _ _ _ _ _ _ _ _ _ _ _ _ _ _ _ _ _ _ _ _ _ _ _ _ _ _ _ _ _ _ _ _ _ _ _ _ _ _ _ _ _ _ _ _ _ _ _ _ _ _ _ _ _ _ _ _ _ _ _ _ _ _ _ _ _ _ _ _ _ _ _ _ _ _  _ _ (n - X1) (m - Y1) _ (by omega) (by omega) g3 (fun C h1 h2 => bel_drewN (HM2.out.bel C h1 h2) _)
              · have q3' : (X : Int) + V ((n : Int) - m - K) < (n : Int) := by omega
                clear q3
                go_quiet (fail)
                go_wp2
                go_roundw
                case rel =>
                  have hF := HF.out.step HP.out HT'.out (fun _ _ _ _ => by omega)
                  exact ⟨K + 2, V, upd U K X, by go_num, by omega, by omega, by (have := HP.out); omega, hF, HM2.out.drewN _⟩
                case measure => simp [intOf]; omega
            · have q2' : decide ((n : Int) - m - K ≤ (D : Int)) = false := by simp; omega
              clear cU cN2 cO2
              go_quiet (fail)
              go_wp2
              go_roundw
              case rel =>
                have hF := HF.out.step HP.out HT'.out (fun _ _ _ h => by omega)
                exact ⟨K + 2, V, upd U K X, by go_num, by omega, by omega, by (have := HP.out); omega, hF, HM2.out.drewN _⟩
              case measure => simp [intOf]; omega
          · have q1' : decide (-(D : Int) ≤ (n : Int) - m - K) = false := by simp; omega
            clear cU cN2 cO2
            go_quiet (fail)
            go_wp2
            go_roundw
            case rel =>
              have hF := HF.out.step HP.out HT'.out (fun _ _ h => by omega)
              exact ⟨K + 2, V, upd U K X, by go_num, by omega, by omega, by (have := HP.out); omega, hF, HM2.out.drewN _⟩
            case measure => simp [intOf]; omega
        · clear cU cN2 cO2
          go_quiet (fail)
          go_wp2
          go_roundw
          case rel =>
            have hF := HF.out.step HP.out HT'.out (fun h => absurd h ((odd_of hodd).1 rfl))
            exact ⟨K + 2, V, upd U K X, by go_num, by omega, by omega, by (have := HP.out); omega, hF, HM2.out.drewN _⟩
          case measure => simp [intOf]; omega
    · have HF := (show Hid _ from hF)
      have HM := (show Hid _ from hM)
      clear hF hM hKp
      go_wp2
      exact hexit.out _ _ _ _ _ _ _ _ _ _ _ _ _ _ _ _ _ _ _ _ _ _ _ _ _ _ _ _ _ _ _ _ _ _ _ _ _ _ _ _ _ _ _ _ _ _ _ _ _ _ _ _ _ _ _ _ _ _ _ _ _ _ _ _ _ _ _ _ _ _ _ _ _ _ _ _ _ _ _ _ _ _ _ _ _ _ _ _ _ _ _ _ _ _ _ _ _ _ _  K V U _ (by omega) HF.out HM.out

end Go.Proofs.Ybulkkyu.ASplit
