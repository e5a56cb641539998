/- LawS0579ASplitKeepsLCS: the walk of middle (10). -/
import Derived.Test.YbulkkyuABwd
namespace Go.Proofs.Ybulkkyu.ASplit
open Go.RowKit Lcs
set_option linter.unusedVariables false

set_option maxRecDepth 100000 in
set_option maxHeartbeats 4000000 in
theorem middle_any (bs ba bb' bf bb la lb off a0 a1 b0 b1 n m : Nat) (A B : Nat → Int) (E : Nat → Nat → Bool) (hE : ∀ p q, E p q = (A (a0 + p) == B (b0 + q))) (V0 U0 : Int → Int) (w : World)
    (hla : la ≤ 300) (hlb : lb ≤ 300) (hoff : off ≤ 300) (hnm : (n + m + 1) / 2 ≤ off) (e1 : (a1 : Int) - a0 = n) (e2 : (b1 : Int) - b0 = m) (h2 : a1 ≤ la) (h4 : b1 ≤ lb)
    (c0 : w.cell? ⟨bs, 0, none⟩ = some (.slice (some ⟨ba, 0, none⟩) la la)) (c1 : w.cell? ⟨bs, 1, none⟩ = some (.slice (some ⟨bb', 0, none⟩) lb lb))
    (c4 : w.cell? ⟨bs, 4, none⟩ = some (.slice (some ⟨bf, 0, none⟩) (2 * off + 1) (2 * off + 1))) (c5 : w.cell? ⟨bs, 5, none⟩ = some (.slice (some ⟨bb, 0, none⟩) (2 * off + 1) (2 * off + 1)))
    (c6 : w.cell? ⟨bs, 6, none⟩ = some (.int .i64 off))
    (hA : ∀ i, i < la → w.cell? ⟨ba, i, none⟩ = some (.int .u8 (A i))) (hB : ∀ i, i < lb → w.cell? ⟨bb', i, none⟩ = some (.int .u8 (B i)))
    (hV : w.rowIs bf 3 (2 * off + 1) (fun j => .int .i64 (V0 ((j : Int) - off)))) (hU : w.rowIs bb 3 (2 * off + 1) (fun j => .int .i64 (U0 ((j : Int) - off))))
    (hVb : ∀ j, -1 ≤ V0 j ∧ V0 j ≤ 300) (hUb : ∀ j, -1 ≤ U0 j ∧ U0 j ≤ 300) (ap : Apart bs ba bb' bf bb w.heap.size) :
    Calls Yba.prog 10 #[.pointer (some ⟨bs, 0, none⟩), .int .i64 a0, .int .i64 a1, .int .i64 b0, .int .i64 b1] w
      fun e w' => ∃ x y : Nat, e = .returned (.tuple #[.int .i64 ((a0 + x : Nat) : Int), .int .i64 ((b0 + y : Nat) : Int)]) ∧ Opt E n m x y ∧ (∀ C, C ≤ bf → C ≤ bb → Below C w w') := by
  have MS := Mem.start (n := n) (m := m) c0 c1 hA hB hV hU hVb hUb ap
  have HM : Hid (Mem bs ba bb' bf bb la lb off n m A B w ((((w.alloc (.cells #[.int .i64 n] 3)).alloc (.cells #[.int .i64 m] 3)).alloc (.cells #[.int .i64 off] 3)).drew) V0 U0) := MS
  clear MS c0 c1 hA hB hV hU hVb hUb
  obtain ⟨odd, hodd⟩ : ∃ o : Bool, (((n : Int) - m).tmod 2 != 0) = o := ⟨_, rfl⟩
  have z1 := ap.z1
  have z1a : bs < w.heap.size + 1 := by omega
  have z1b : bs < w.heap.size + 2 := by omega
  have bn : n ≤ 300 := by omega
  have bm : m ≤ 300 := by omega
  go_enter Yba.func10, Yba.ntmps10
  go_wp2
  go_region
  go_wp2
  have HE := (show Hid _ from hE)
  have HD : Hid ((((n : Int) - m).tmod 2 != 0) = odd) := hodd
  have HAp := (show Hid _ from ap)
  clear hE hodd c4 c5 c6 z1 z1a z1b ap
  go_loopw [20] (fun d wr => ∃ (D : Nat) (V U : Int → Int), d = .int .i64 D ∧ D ≤ (n + m + 1) / 2 + 1 ∧ Fwd E n m D (-(D : Int)) V U ∧ Mem bs ba bb' bf bb la lb off n m A B w wr V U) (fun d _ => (n + m + 1) / 2 + 1 - (intOf d).toNat)
  case atStart => exact ⟨0, V0, U0, rfl, Nat.zero_le _, Fwd.start E n m V0 U0, HM.out⟩
  case round =>
    obtain ⟨D, V, U, rfl, hD, hF, hM⟩ := hrel
    clear HM
    by_cases hlt : (D : Int) ≤ ((n : Int) + m + 1) / 2
    · have hDo : D ≤ off := by omega
      have cN := hM.cN
      have cM := hM.cM
      have HF := (show Hid _ from hF)
      have HM := (show Hid _ from hM)
      clear hF hM
      go_wp2
      refine fwdLoop bs ba bb' bf bb la lb off a0 a1 b0 b1 n m A B E odd V U w _ D _ _ _ _ _ _ _ _ _ _ _ _ _ _ _ _ _ _ _ _ _ _ _ _ _ _ _ _ _ _ _ _ _ _ _ _ _ _ _ _ _ _ _ _ _ _ _ _ _ _ _ _ _ _ _ _ _ _ _ _ _ _ _ _ _ _ _ _ _ _ _ _ _ _ _ _ _ _ _ _ _ _ _ _ _ _ _ _ _ _ _ _ _ _ _ _ _ _ _ _ _ _ _ _ _ _ _ _ _ _ _ _ _ _ _ _ _ _ _ _ _ _ _ _ _ _ _ _ _ _ _ _ _ _ _ _ _ _ _ _ _ _ _ _ _ _ _ _ _ _ _ _ _ _ _ _ _ _ _ _ _ _ _ _ _ _ _ _ _ _ _ _ _ _ _ _ _ _ _ _ _ _ _ _ _ _ _ _ _ _ _ _ _ _ _ _ _ _ _ _ _ _ _ _ _ _ _ _ _ _ _ _ _ _ _ _ _ _ _ _ _ _ _ _ _ _ _ _ _ _ _ _ _ _ _ _ _ _ _ _ _ _ _ _ _ _ _ _ _ _ _ _ _ _ _ _ _  hla hlb hoff hnm e1 e2 h2 h4 bn bm HE.out HAp.out HF.out HM.out hDo HD (fun t10 t11 t22 t23 t65 t66 t67 t68 t69 t70 t71 t72 t73 t74 t75 t76 t77 t78 t79 t80 t81 t82 t83 t84 t85 t86 t87 t88 t89 t90 t91 t92 t93 t94 t95 t96 t97 t98 t99 t100 t101 t102 t103 t104 t105 t106 t107 t108 t109 t110 t111 t112 t113 t114 t115 t116 t117 t118 t119 t120 t121 t122 t123 t124 t125 t126 t127 t128 t129 t130 t131 t132 t133 t134 t135 t136 t137 t138 t139 t140 t141 t142 t143 t144 t145 t146 t147 t148 t149 t150 t151 t152 t153 t154 t155 t156 t157 t158 K1 V1 U1 w1 hK hF1 hM1 => ?_) (fun r21 r22 r23 r65 r66 r67 r68 r69 r70 r71 r72 r73 r74 r75 r76 r77 r78 r79 r80 r81 r82 r83 r84 r85 r86 r87 r88 r89 r90 r91 r92 r93 r94 r95 r96 r97 r98 r99 r100 r101 r102 r103 r104 r105 r106 r107 r108 r109 r110 r111 r112 r113 r114 r115 r116 r117 r118 r119 r120 r121 r122 r123 r124 r125 r126 r127 r128 r129 r130 r131 r132 r133 r134 r135 r136 r137 r138 r139 r140 r141 r142 r143 r144 r145 r146 r147 r148 r149 r150 r151 r152 r153 r154 r155 r156 r157 r158 p q X Y w1 hp hq hO hB => ?_)
      · clear HF HM cN cM
        have HF := (show Hid _ from hF1.over (by omega) hK)
        have HM := (show Hid _ from hM1)
        clear hF1 hM1 hK
        go_wp2
        refine bwdLoop bs ba bb' bf bb la lb off a0 a1 b0 b1 n m A B E odd V1 U1 w _ D _ _ _ _ _ _ _ _ _ _ _ _ _ _ _ _ _ _ _ _ _ _ _ _ _ _ _ _ _ _ _ _ _ _ _ _ _ _ _ _ _ _ _ _ _ _ _ _ _ _ _ _ _ _ _ _ _ _ _ _ _ _ _ _ _ _ _ _ _ _ _ _ _ _ _ _ _ _ _ _ _ _ _ _ _ _ _ _ _ _ _ _ _ _ _ _ _ _ _ _ _ _ _ _ _ _ _ _ _ _ _ _ _ _ _ _ _ _ _ _ _ _ _ _ _ _ _ _ _ _ _ _ _ _ _ _ _ _ _ _ _ _ _ _ _ _ _ _ _ _ _ _ _ _ _ _ _ _ _ _ _ _ _ _ _ _ _ _ _ _ _ _ _ _ _ _ _ _ _ _ _ _ _ _ _ _ _ _ _ _ _ _ _ _ _ _ _ _ _ _ _ _ _ _ _ _ _ _ _ _ _ _ _ _ _ _ _ _ _ _ _ _ _ _ _ _ _ _ _ _ _ _ _ _ _ _ _ _ _ _ _ _ _ _ _ _ _ _ _ _ _ _ _ _ _ _ _  hla hlb hoff hnm e1 e2 h2 h4 bn bm HE.out HAp.out HF.out HM.out hDo HD (fun v10 v11 v25 v26 v161 v162 v163 v164 v165 v166 v167 v168 v169 v170 v171 v172 v173 v174 v175 v176 v177 v178 v179 v180 v181 v182 v183 v184 v185 v186 v187 v188 v189 v190 v191 v192 v193 v194 v195 v196 v197 v198 v199 v200 v201 v202 v203 v204 v205 v206 v207 v208 v209 v210 v211 v212 v213 v214 v215 v216 v217 v218 v219 v220 v221 v222 v223 v224 v225 v226 v227 v228 v229 v230 v231 v232 v233 v234 v235 v236 v237 v238 v239 v240 v241 v242 v243 v244 v245 v246 v247 v248 v249 v250 v251 v252 v253 v254 v255 K2 V2 U2 w2 hK hF2 hM2 => ?_) (fun z24 z25 z26 z161 z162 z163 z164 z165 z166 z167 z168 z169 z170 z171 z172 z173 z174 z175 z176 z177 z178 z179 z180 z181 z182 z183 z184 z185 z186 z187 z188 z189 z190 z191 z192 z193 z194 z195 z196 z197 z198 z199 z200 z201 z202 z203 z204 z205 z206 z207 z208 z209 z210 z211 z212 z213 z214 z215 z216 z217 z218 z219 z220 z221 z222 z223 z224 z225 z226 z227 z228 z229 z230 z231 z232 z233 z234 z235 z236 z237 z238 z239 z240 z241 z242 z243 z244 z245 z246 z247 z248 z249 z250 z251 z252 z253 z254 z255 p q X Y w2 hp hq hO hB => ?_)
        · clear HF HM
          have HF := (show Hid _ from hF2.over (by omega) hK)
          have HM := (show Hid _ from hM2)
          clear hF2 hM2 hK
          go_wp2
          go_roundw
          case rel =>
            repeat apply Exists.intro
            refine ⟨?_, rfl⟩
            exact ⟨D + 1, V2, U2, by go_num, by omega, by rw [show ((D + 1 : Nat) : Int) = (D : Int) + 1 by omega]; exact HF.out, HM.out⟩
          case measure => simp [intOf]; omega
        · subst hp
          subst hq
          have HO := (show Hid _ from hO)
          have HB := (show Hid _ from hB)
          clear hO hB
          go_wp2
          go_ret2
          exact ⟨X, Y, by simp, HO.out, HB.out⟩
      · subst hp
        subst hq
        have HO := (show Hid _ from hO)
        have HB := (show Hid _ from hB)
        clear hO hB
        go_wp2
        go_ret2
        exact ⟨X, Y, by simp, HO.out, HB.out⟩
    · exact (hF.out (by omega)).elim

end Go.Proofs.Ybulkkyu.ASplit
