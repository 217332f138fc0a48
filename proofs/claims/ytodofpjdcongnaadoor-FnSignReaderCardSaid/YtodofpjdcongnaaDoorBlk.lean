/- SHA-256's block function: what it leaves in the digest is what the plain lists say. -/
import Derived.Test.YtodofpjdcongnaaDoorRegs
import Derived.Deep.LoopGhost
namespace Go.Proofs.YtodofpjdcongnaaDoor.Sign
open Go.RowKit Go.Proofs.YtodofpjdcongnaaDoorW.PrintWords

def loopOf : Code → Option Code
  | .loop c => some c
  | .seq a b => match loopOf a with
    | some c => some c
    | none => loopOf b
  | .block _ c => loopOf c
  | .scope c => loopOf c
  | .cond _ a b => match loopOf a with
    | some c => some c
    | none => loopOf b
  | _ => none
noncomputable def outer54 : Code := (loopOf (Tryd.f54.body.getD .skip)).getD .skip
noncomputable def inner54 : Code := (loopOf outer54).getD .skip

set_option maxHeartbeats 16000000 in
set_option maxRecDepth 100000 in
theorem inner_round {K : Act → World → Prop} {Q0 : Exit → Act → World → Prop} {v0 v2 v3 v5 v6 v7 v8 v9 v10 v11 v12 v21 v22 v23 v24 v25 v26 v27 v28 v29 v30 v31 v32 v33 v34 v35 v36 v37 v38 v39 v40 v41 v42 v43 v44 v45 v46 v47 v48 v49 v50 v51 v52 v53 v54 v55 v56 v57 v58 v59 v60 v61 v62 v63 v64 v65 v66 v67 v68 v69 v70 v71 v72 v73 v74 v75 v76 v77 v78 v79 v81 v82 v83 v84 v85 v86 v87 v88 v89 v90 v91 v92 v93 v94 v95 v96 v97 v98 v99 v100 v101 v102 v103 v104 v105 v106 v107 v108 v109 v110 v111 v112 v113 v114 v115 v116 v117 v118 v119 v120 v121 v122 v123 v124 v125 v126 v127 v128 v129 v130 v131 v132 v133 v134 v135 v136 v137 v138 v139 v140 v141 v142 v143 v144 v145 v146 v147 v148 v149 v150 v151 v152 v153 v154 v155 v156 v157 v158 v159 v160 v161 v162 v163 v164 v165 v166 v167 v168 v169 v170 v171 v172 v173 v174 v175 v176 v177 v178 v179 v180 v181 v182 v183 v184 v185 v186 v187 v188 v189 v190 v191 v192 v193 v194 v195 v196 v197 v198 v199 v200 v201 v202 v203 v204 v205 v206 v207 v208 v209 v210 v211 v212 v213 v214 v215 v216 v217 v218 v219 v220 v221 v222 v223 v224 v225 v226 v227 v228 v229 v230 v231 v232 v233 v234 v235 v236 v237 v238 v239 v240 v241 v242 v243 v244 v245 v246 v247 v248 v249 v250 v251 v252 v253 v254 v255 v256 v257 v258 v259 v260 v261 v262 v263 v264 v265 v266 v267 v268 v269 v270 v271 v272 v273 v274 v275 v276 v277 v278 v279 v280 v281 v282 : Value} (wr : World) {b p P L c B i : Nat} {y0 y1 y2 y3 y4 y5 y6 y7 : Int} {q ws Kt : List Int}
    (hi : i < 64) (hL : 64 ≤ L) (_hc : c ≤ 9223372036854775807) (_hLc : L ≤ c) (hU : Wd wr 43 B ws) (hK4 : Wd wr 43 4 Kt) (h4B : 4 ≠ B) (hbB : b ≠ B)
    (hq : ∀ j, j < 64 → wr.cell? ⟨b, p + j, none⟩ = some (.int .u8 (q.getD (P + j) 0))) (hq8 : ∀ j, 0 ≤ q.getD j 0 ∧ q.getD j 0 ≤ 255)
    (hK : ∀ (t21 t22 t23 t24 t25 t26 t27 t28 t81 t82 t83 t84 t85 t86 t87 t88 t89 t90 t91 t92 t93 t94 t95 t96 t97 t98 t99 t100 t101 t102 t103 t104 t105 t106 t107 t108 t109 t110 t111 t112 t113 t114 t115 t116 t117 t118 t119 t120 t121 t122 t123 t124 t125 t126 t127 t128 t129 t130 t131 t132 t133 t134 t135 t136 t137 t138 t139 t140 t141 t142 t143 t144 t145 t146 t147 t148 t149 t150 t151 t152 t153 t154 t155 t156 t157 t158 t159 t160 t161 t162 t163 t164 t165 t166 t167 t168 t169 t170 t171 t172 t173 t174 t175 t176 t177 t178 t179 t180 t181 t182 t183 t184 t185 t186 t187 t188 t189 t190 t191 t192 t193 t194 t195 t196 t197 t198 t199 t200 t201 t202 t203 t204 t205 t206 t207 t208 t209 t210 t211 t212 t213 t214 t215 t216 : Value) (z0 z1 z2 z3 z4 z5 z6 z7 : Int) (us : List Int) (wz : World), stp Kt q P i (ws, [y0, y1, y2, y3, y4, y5, y6, y7]) = (us, [z0, z1, z2, z3, z4, z5, z6, z7]) → Wd wz 43 B us → wr.grownBy wz (some B) → K ⟨(v0 :: (.slice (some ⟨b, p, none⟩) L c : Value) :: v2 :: v3 :: (.pointer (some ⟨B, 0, none⟩) : Value) :: v5 :: v6 :: v7 :: v8 :: v9 :: v10 :: v11 :: v12 :: (.int .u32 z0 : Value) :: (.int .u32 z1 : Value) :: (.int .u32 z2 : Value) :: (.int .u32 z3 : Value) :: (.int .u32 z4 : Value) :: (.int .u32 z5 : Value) :: (.int .u32 z6 : Value) :: (.int .u32 z7 : Value) :: t21 :: t22 :: t23 :: t24 :: t25 :: t26 :: t27 :: t28 :: v29 :: v30 :: v31 :: v32 :: v33 :: v34 :: v35 :: v36 :: v37 :: v38 :: v39 :: v40 :: v41 :: v42 :: v43 :: v44 :: v45 :: v46 :: v47 :: v48 :: v49 :: v50 :: v51 :: v52 :: v53 :: v54 :: v55 :: v56 :: v57 :: v58 :: v59 :: v60 :: v61 :: v62 :: v63 :: v64 :: v65 :: v66 :: v67 :: v68 :: v69 :: v70 :: v71 :: v72 :: v73 :: v74 :: v75 :: v76 :: v77 :: v78 :: v79 :: (.int .i64 ((i : Int) + 1) : Value) :: t81 :: t82 :: t83 :: t84 :: t85 :: t86 :: t87 :: t88 :: t89 :: t90 :: t91 :: t92 :: t93 :: t94 :: t95 :: t96 :: t97 :: t98 :: t99 :: t100 :: t101 :: t102 :: t103 :: t104 :: t105 :: t106 :: t107 :: t108 :: t109 :: t110 :: t111 :: t112 :: t113 :: t114 :: t115 :: t116 :: t117 :: t118 :: t119 :: t120 :: t121 :: t122 :: t123 :: t124 :: t125 :: t126 :: t127 :: t128 :: t129 :: t130 :: t131 :: t132 :: t133 :: t134 :: t135 :: t136 :: t137 :: t138 :: t139 :: t140 :: t141 :: t142 :: t143 :: t144 :: t145 :: t146 :: t147 :: t148 :: t149 :: t150 :: t151 :: t152 :: t153 :: t154 :: t155 :: t156 :: t157 :: t158 :: t159 :: t160 :: t161 :: t162 :: t163 :: t164 :: t165 :: t166 :: t167 :: t168 :: t169 :: t170 :: t171 :: t172 :: t173 :: t174 :: t175 :: t176 :: t177 :: t178 :: t179 :: t180 :: t181 :: t182 :: t183 :: t184 :: t185 :: t186 :: t187 :: t188 :: t189 :: t190 :: t191 :: t192 :: t193 :: t194 :: t195 :: t196 :: t197 :: t198 :: t199 :: t200 :: t201 :: t202 :: t203 :: t204 :: t205 :: t206 :: t207 :: t208 :: t209 :: t210 :: t211 :: t212 :: t213 :: t214 :: t215 :: t216 :: v217 :: v218 :: v219 :: v220 :: v221 :: v222 :: v223 :: v224 :: v225 :: v226 :: v227 :: v228 :: v229 :: v230 :: v231 :: v232 :: v233 :: v234 :: v235 :: v236 :: v237 :: v238 :: v239 :: v240 :: v241 :: v242 :: v243 :: v244 :: v245 :: v246 :: v247 :: v248 :: v249 :: v250 :: v251 :: v252 :: v253 :: v254 :: v255 :: v256 :: v257 :: v258 :: v259 :: v260 :: v261 :: v262 :: v263 :: v264 :: v265 :: v266 :: v267 :: v268 :: v269 :: v270 :: v271 :: v272 :: v273 :: v274 :: v275 :: v276 :: v277 :: v278 :: v279 :: v280 :: v281 :: v282 :: []).toArray, []⟩ wz) :
    Code.wp Tryd.prog inner54 (Exit.then K Q0) ⟨(v0 :: (.slice (some ⟨b, p, none⟩) L c : Value) :: v2 :: v3 :: (.pointer (some ⟨B, 0, none⟩) : Value) :: v5 :: v6 :: v7 :: v8 :: v9 :: v10 :: v11 :: v12 :: (.int .u32 y0 : Value) :: (.int .u32 y1 : Value) :: (.int .u32 y2 : Value) :: (.int .u32 y3 : Value) :: (.int .u32 y4 : Value) :: (.int .u32 y5 : Value) :: (.int .u32 y6 : Value) :: (.int .u32 y7 : Value) :: v21 :: v22 :: v23 :: v24 :: v25 :: v26 :: v27 :: v28 :: v29 :: v30 :: v31 :: v32 :: v33 :: v34 :: v35 :: v36 :: v37 :: v38 :: v39 :: v40 :: v41 :: v42 :: v43 :: v44 :: v45 :: v46 :: v47 :: v48 :: v49 :: v50 :: v51 :: v52 :: v53 :: v54 :: v55 :: v56 :: v57 :: v58 :: v59 :: v60 :: v61 :: v62 :: v63 :: v64 :: v65 :: v66 :: v67 :: v68 :: v69 :: v70 :: v71 :: v72 :: v73 :: v74 :: v75 :: v76 :: v77 :: v78 :: v79 :: (.int .i64 (i : Int) : Value) :: v81 :: v82 :: v83 :: v84 :: v85 :: v86 :: v87 :: v88 :: v89 :: v90 :: v91 :: v92 :: v93 :: v94 :: v95 :: v96 :: v97 :: v98 :: v99 :: v100 :: v101 :: v102 :: v103 :: v104 :: v105 :: v106 :: v107 :: v108 :: v109 :: v110 :: v111 :: v112 :: v113 :: v114 :: v115 :: v116 :: v117 :: v118 :: v119 :: v120 :: v121 :: v122 :: v123 :: v124 :: v125 :: v126 :: v127 :: v128 :: v129 :: v130 :: v131 :: v132 :: v133 :: v134 :: v135 :: v136 :: v137 :: v138 :: v139 :: v140 :: v141 :: v142 :: v143 :: v144 :: v145 :: v146 :: v147 :: v148 :: v149 :: v150 :: v151 :: v152 :: v153 :: v154 :: v155 :: v156 :: v157 :: v158 :: v159 :: v160 :: v161 :: v162 :: v163 :: v164 :: v165 :: v166 :: v167 :: v168 :: v169 :: v170 :: v171 :: v172 :: v173 :: v174 :: v175 :: v176 :: v177 :: v178 :: v179 :: v180 :: v181 :: v182 :: v183 :: v184 :: v185 :: v186 :: v187 :: v188 :: v189 :: v190 :: v191 :: v192 :: v193 :: v194 :: v195 :: v196 :: v197 :: v198 :: v199 :: v200 :: v201 :: v202 :: v203 :: v204 :: v205 :: v206 :: v207 :: v208 :: v209 :: v210 :: v211 :: v212 :: v213 :: v214 :: v215 :: v216 :: v217 :: v218 :: v219 :: v220 :: v221 :: v222 :: v223 :: v224 :: v225 :: v226 :: v227 :: v228 :: v229 :: v230 :: v231 :: v232 :: v233 :: v234 :: v235 :: v236 :: v237 :: v238 :: v239 :: v240 :: v241 :: v242 :: v243 :: v244 :: v245 :: v246 :: v247 :: v248 :: v249 :: v250 :: v251 :: v252 :: v253 :: v254 :: v255 :: v256 :: v257 :: v258 :: v259 :: v260 :: v261 :: v262 :: v263 :: v264 :: v265 :: v266 :: v267 :: v268 :: v269 :: v270 :: v271 :: v272 :: v273 :: v274 :: v275 :: v276 :: v277 :: v278 :: v279 :: v280 :: v281 :: v282 :: []).toArray, []⟩ wr := by
  conv => arg 2; whnf
  have HK1 := Aside0.mk hK
  have HU := Aside0.mk hU
  have HK4 := Aside0.mk hK4
  have H4B := Aside0.mk h4B
  have HBB := Aside0.mk hbB
  have HQ := Aside0.mk hq
  have HQ8 := Aside0.mk hq8
  have hii : (i : Int) < 64 := by omega
  clear hK hU hK4 h4B hbB hq hq8
  have hci : ∃ uo, wr.cell? ⟨B, i, none⟩ = some uo := ⟨_, HU.out.cell i hi⟩
  obtain ⟨uo, hci⟩ := hci
  have fi := blk_frozen HU.out.blk i
  by_cases hi16 : i < 16
  · obtain ⟨e0, he0⟩ : ∃ e, e = q.getD (P + i * 4) 0 := ⟨_, rfl⟩
    obtain ⟨e1, he1⟩ : ∃ e, e = q.getD (P + (i * 4 + 1)) 0 := ⟨_, rfl⟩
    obtain ⟨e2, he2⟩ : ∃ e, e = q.getD (P + (i * 4 + 2)) 0 := ⟨_, rfl⟩
    obtain ⟨e3, he3⟩ : ∃ e, e = q.getD (P + (i * 4 + 3)) 0 := ⟨_, rfl⟩
    have q0 : wr.cell? ⟨b, p + i * 4, none⟩ = some (.int .u8 e0) := by rw [he0]; exact HQ.out _ (by omega)
    have q1 : wr.cell? ⟨b, p + (i * 4 + 1), none⟩ = some (.int .u8 e1) := by rw [he1]; exact HQ.out _ (by omega)
    have q2 : wr.cell? ⟨b, p + (i * 4 + 2), none⟩ = some (.int .u8 e2) := by rw [he2]; exact HQ.out _ (by omega)
    have q3 : wr.cell? ⟨b, p + (i * 4 + 3), none⟩ = some (.int .u8 e3) := by rw [he3]; exact HQ.out _ (by omega)
    have HL0 : Aside0 (0 ≤ e0 ∧ e0 ≤ 255) := Aside0.mk (by rw [he0]; exact HQ8.out _)
    have HL1 : Aside0 (0 ≤ e1 ∧ e1 ≤ 255) := Aside0.mk (by rw [he1]; exact HQ8.out _)
    have HL2 : Aside0 (0 ≤ e2 ∧ e2 ≤ 255) := Aside0.mk (by rw [he2]; exact HQ8.out _)
    have HL3 : Aside0 (0 ≤ e3 ∧ e3 ≤ 255) := Aside0.mk (by rw [he3]; exact HQ8.out _)
    have HE0 := Aside0.mk he0
    have HE1 := Aside0.mk he1
    have HE2 := Aside0.mk he2
    have HE3 := Aside0.mk he3
    clear he0 he1 he2 he3
    go_wp2
    refine reg9 wr hi16 hL uo hci fi q0 q1 q2 q3 HL0.out HL1.out HL2.out HL3.out (fun t87 t88 t89 t90 t91 t92 t93 t94 t95 t96 t97 t98 t99 t100 t101 t102 t103 t104 t105 t106 t107 t108 t109 t110 t111 t112 t113 t114 t115 t116 t117 => ?_)
    obtain ⟨W, hW⟩ : ∃ W, W = word q ws P i := ⟨_, rfl⟩
    have hW2 : W = bits .or .u32 (bits .or .u32 (bits .or .u32 (e0 * 16777216) (e1 * 65536)) (e2 * 256)) e3 := by
      rw [hW, word, if_pos hi16, HE0.out, HE1.out, HE2.out, HE3.out]
      rfl
    rw [← hW2]
    have HW := Aside0.mk hW
    clear hW hW2 HE0 HE1 HE2 HE3 q0 q1 q2 q3 HL0 HL1 HL2 HL3 hi16 fi hci uo
    obtain ⟨wz, hwz⟩ : ∃ z, z = (wr.setCell ⟨B, i, none⟩ (.int .u32 W)).drew := ⟨_, rfl⟩
    rw [← hwz]
    have hwd' : Wd wz 43 B (ws.set i W) := by rw [hwz]; exact (HU.out.put i W).drew
    have hgz : wr.grownBy wz (some B) := by rw [hwz]; exact (grown_put _ _ _ _).trans (grown_drew _ _)
    obtain ⟨kk, hkk⟩ : ∃ k, k = Kt.getD i 0 := ⟨_, rfl⟩
    have cK : wz.cell? ⟨4, i, none⟩ = some (.int .u32 kk) := by
      rw [hkk]
      exact hgz.cell (HK4.out.cell i hi) (by intro e; exact H4B.out (Option.some.inj e))
    have cW : wz.cell? ⟨B, i, none⟩ = some (.int .u32 W) := by
      rw [hwd'.cell i hi]
      simp [List.getD, HU.out.len, hi]
    have HWD3 := Aside0.mk hwd'
    have HGZ := Aside0.mk hgz
    have HKI := Aside0.mk hkk
    clear hwz hwd' hgz hkk
    go_wp2_with fail
    refine reg15 wz hi cK cW (fun nq2 t157 t158 t159 t160 t161 t162 t163 t164 t165 t166 t167 t168 t169 t170 t171 t172 t173 t174 t175 t176 t177 t178 t179 t180 t181 t182 t183 => ?_)
    clear cK cW
    go_wp2_with fail
    (with_reducible refine (rot_left' _ _ 30 by2 (by decide) _).mono ?_)
    rintro e w' ⟨rfl, rfl⟩
    go_wp2_with fail
    (with_reducible refine (rot_left' _ _ 19 by13 (by decide) _).mono ?_)
    rintro e w' ⟨rfl, rfl⟩
    go_wp2_with fail
    (with_reducible refine (rot_left' _ _ 10 by22 (by decide) _).mono ?_)
    rintro e w' ⟨rfl, rfl⟩
    go_wp2
    refine HK1.out _ _ _ _ _ _ _ _ _ _ _ _ _ _ _ _ _ _ _ _ _ _ _ _ _ _ _ _ _ _ _ _ _ _ _ _ _ _ _ _ _ _ _ _ _ _ _ _ _ _ _ _ _ _ _ _ _ _ _ _ _ _ _ _ _ _ _ _ _ _ _ _ _ _ _ _ _ _ _ _ _ _ _ _ _ _ _ _ _ _ _ _ _ _ _ _ _ _ _ _ _ _ _ _ _ _ _ _ _ _ _ _ _ _ _ _ _ _ _ _ _ _ _ _ _ _ _ _ _ _ _ _ _ _ _ _ _ _ _ _ _ _ _ _ _ _ _ _ _ _ _ _ _ _ ?_ (HWD3.out.drewN _) (HGZ.out.trans (grown_drewN _ _ _))
    show (ws.set i (word q ws P i), _) = _
    rw [← HW.out, ← HKI.out]
    simp only [t2of]
  · obtain ⟨g2, hg2⟩ : ∃ g, g = ws.getD (i - 2) 0 := ⟨_, rfl⟩
    obtain ⟨g7, hg7⟩ : ∃ g, g = ws.getD (i - 7) 0 := ⟨_, rfl⟩
    obtain ⟨g15, hg15⟩ : ∃ g, g = ws.getD (i - 15) 0 := ⟨_, rfl⟩
    obtain ⟨g16, hg16⟩ : ∃ g, g = ws.getD (i - 16) 0 := ⟨_, rfl⟩
    have q2 : wr.cell? ⟨B, i - 2, none⟩ = some (.int .u32 g2) := by rw [hg2]; exact HU.out.cell _ (by omega)
    have q7 : wr.cell? ⟨B, i - 7, none⟩ = some (.int .u32 g7) := by rw [hg7]; exact HU.out.cell _ (by omega)
    have q15 : wr.cell? ⟨B, i - 15, none⟩ = some (.int .u32 g15) := by rw [hg15]; exact HU.out.cell _ (by omega)
    have q16 : wr.cell? ⟨B, i - 16, none⟩ = some (.int .u32 g16) := by rw [hg16]; exact HU.out.cell _ (by omega)
    have HG2 := Aside0.mk hg2
    have HG7 := Aside0.mk hg7
    have HG15 := Aside0.mk hg15
    have HG16 := Aside0.mk hg16
    have hi16' : 16 ≤ i := by omega
    clear hg2 hg7 hg15 hg16 hi16
    go_wp2_with fail
    (with_reducible refine (rot_left' _ _ 15 by17 (by decide) _).mono ?_)
    rintro e w' ⟨rfl, rfl⟩
    go_wp2_with fail
    (with_reducible refine (rot_left' _ _ 13 by19 (by decide) _).mono ?_)
    rintro e w' ⟨rfl, rfl⟩
    go_wp2_with fail
    (with_reducible refine (rot_left' _ _ 25 by7 (by decide) _).mono ?_)
    rintro e w' ⟨rfl, rfl⟩
    go_wp2_with fail
    (with_reducible refine (rot_left' _ _ 14 by18 (by decide) _).mono ?_)
    rintro e w' ⟨rfl, rfl⟩
    go_wp2_with fail
    refine reg14 wr hi16' hi uo hci fi q7 q16 (fun t142 t143 t144 t145 t146 t147 t148 t149 t150 t151 t152 t153 t154 t155 t156 => ?_)
    obtain ⟨W, hW⟩ : ∃ W, W = word q ws P i := ⟨_, rfl⟩
    have hW2 : W = (((bits .xor .u32 (bits .xor .u32 (rotl g2 15) (rotl g2 13)) (g2 / 1024) + g7) % 4294967296 + bits .xor .u32 (bits .xor .u32 (rotl g15 25) (rotl g15 14)) (g15 / 8)) % 4294967296 + g16) % 4294967296 := by
      rw [hW, word, if_neg (by omega), HG2.out, HG7.out, HG15.out, HG16.out]
      simp only [wordx, sig0, sig1]
    rw [← hW2]
    have HW := Aside0.mk hW
    clear hW hW2 HG2 HG7 HG15 HG16 q2 q7 q15 q16 hi16' fi hci uo
    obtain ⟨wz, hwz⟩ : ∃ z, z = (wr.setCell ⟨B, i, none⟩ (.int .u32 W)).drew := ⟨_, rfl⟩
    rw [← hwz]
    have hwd' : Wd wz 43 B (ws.set i W) := by rw [hwz]; exact (HU.out.put i W).drew
    have hgz : wr.grownBy wz (some B) := by rw [hwz]; exact (grown_put _ _ _ _).trans (grown_drew _ _)
    obtain ⟨kk, hkk⟩ : ∃ k, k = Kt.getD i 0 := ⟨_, rfl⟩
    have cK : wz.cell? ⟨4, i, none⟩ = some (.int .u32 kk) := by
      rw [hkk]
      exact hgz.cell (HK4.out.cell i hi) (by intro e; exact H4B.out (Option.some.inj e))
    have cW : wz.cell? ⟨B, i, none⟩ = some (.int .u32 W) := by
      rw [hwd'.cell i hi]
      simp [List.getD, HU.out.len, hi]
    have HWD3 := Aside0.mk hwd'
    have HGZ := Aside0.mk hgz
    have HKI := Aside0.mk hkk
    clear hwz hwd' hgz hkk
    go_wp2_with fail
    refine reg15 wz hi cK cW (fun nq2 t157 t158 t159 t160 t161 t162 t163 t164 t165 t166 t167 t168 t169 t170 t171 t172 t173 t174 t175 t176 t177 t178 t179 t180 t181 t182 t183 => ?_)
    clear cK cW
    go_wp2_with fail
    (with_reducible refine (rot_left' _ _ 30 by2 (by decide) _).mono ?_)
    rintro e w' ⟨rfl, rfl⟩
    go_wp2_with fail
    (with_reducible refine (rot_left' _ _ 19 by13 (by decide) _).mono ?_)
    rintro e w' ⟨rfl, rfl⟩
    go_wp2_with fail
    (with_reducible refine (rot_left' _ _ 10 by22 (by decide) _).mono ?_)
    rintro e w' ⟨rfl, rfl⟩
    go_wp2
    refine HK1.out _ _ _ _ _ _ _ _ _ _ _ _ _ _ _ _ _ _ _ _ _ _ _ _ _ _ _ _ _ _ _ _ _ _ _ _ _ _ _ _ _ _ _ _ _ _ _ _ _ _ _ _ _ _ _ _ _ _ _ _ _ _ _ _ _ _ _ _ _ _ _ _ _ _ _ _ _ _ _ _ _ _ _ _ _ _ _ _ _ _ _ _ _ _ _ _ _ _ _ _ _ _ _ _ _ _ _ _ _ _ _ _ _ _ _ _ _ _ _ _ _ _ _ _ _ _ _ _ _ _ _ _ _ _ _ _ _ _ _ _ _ _ _ _ _ _ _ _ _ _ _ _ _ _ ?_ (HWD3.out.drewN _) (HGZ.out.trans (grown_drewN _ _ _))
    show (ws.set i (word q ws P i), _) = _
    rw [← HW.out, ← HKI.out]
    simp only [t2of]

set_option maxHeartbeats 16000000 in
set_option maxRecDepth 100000 in
theorem inner_end {K : Act → World → Prop} {Q0 : Exit → Act → World → Prop} {v0 v1 v2 v3 v4 v5 v6 v7 v8 v9 v10 v11 v12 v13 v14 v15 v16 v17 v18 v19 v20 v21 v22 v23 v24 v25 v26 v27 v28 v29 v30 v31 v32 v33 v34 v35 v36 v37 v38 v39 v40 v41 v42 v43 v44 v45 v46 v47 v48 v49 v50 v51 v52 v53 v54 v55 v56 v57 v58 v59 v60 v61 v62 v63 v64 v65 v66 v67 v68 v69 v70 v71 v72 v73 v74 v75 v76 v77 v78 v79 v81 v82 v83 v84 v85 v86 v87 v88 v89 v90 v91 v92 v93 v94 v95 v96 v97 v98 v99 v100 v101 v102 v103 v104 v105 v106 v107 v108 v109 v110 v111 v112 v113 v114 v115 v116 v117 v118 v119 v120 v121 v122 v123 v124 v125 v126 v127 v128 v129 v130 v131 v132 v133 v134 v135 v136 v137 v138 v139 v140 v141 v142 v143 v144 v145 v146 v147 v148 v149 v150 v151 v152 v153 v154 v155 v156 v157 v158 v159 v160 v161 v162 v163 v164 v165 v166 v167 v168 v169 v170 v171 v172 v173 v174 v175 v176 v177 v178 v179 v180 v181 v182 v183 v184 v185 v186 v187 v188 v189 v190 v191 v192 v193 v194 v195 v196 v197 v198 v199 v200 v201 v202 v203 v204 v205 v206 v207 v208 v209 v210 v211 v212 v213 v214 v215 v216 v217 v218 v219 v220 v221 v222 v223 v224 v225 v226 v227 v228 v229 v230 v231 v232 v233 v234 v235 v236 v237 v238 v239 v240 v241 v242 v243 v244 v245 v246 v247 v248 v249 v250 v251 v252 v253 v254 v255 v256 v257 v258 v259 v260 v261 v262 v263 v264 v265 v266 v267 v268 v269 v270 v271 v272 v273 v274 v275 v276 v277 v278 v279 v280 v281 v282 : Value} (wr : World)
    (hx : ∀ t81 : Value, Q0 (.exit 2) ⟨(v0 :: v1 :: v2 :: v3 :: v4 :: v5 :: v6 :: v7 :: v8 :: v9 :: v10 :: v11 :: v12 :: v13 :: v14 :: v15 :: v16 :: v17 :: v18 :: v19 :: v20 :: v21 :: v22 :: v23 :: v24 :: v25 :: v26 :: v27 :: v28 :: v29 :: v30 :: v31 :: v32 :: v33 :: v34 :: v35 :: v36 :: v37 :: v38 :: v39 :: v40 :: v41 :: v42 :: v43 :: v44 :: v45 :: v46 :: v47 :: v48 :: v49 :: v50 :: v51 :: v52 :: v53 :: v54 :: v55 :: v56 :: v57 :: v58 :: v59 :: v60 :: v61 :: v62 :: v63 :: v64 :: v65 :: v66 :: v67 :: v68 :: v69 :: v70 :: v71 :: v72 :: v73 :: v74 :: v75 :: v76 :: v77 :: v78 :: v79 :: (.int .i64 64 : Value) :: t81 :: v82 :: v83 :: v84 :: v85 :: v86 :: v87 :: v88 :: v89 :: v90 :: v91 :: v92 :: v93 :: v94 :: v95 :: v96 :: v97 :: v98 :: v99 :: v100 :: v101 :: v102 :: v103 :: v104 :: v105 :: v106 :: v107 :: v108 :: v109 :: v110 :: v111 :: v112 :: v113 :: v114 :: v115 :: v116 :: v117 :: v118 :: v119 :: v120 :: v121 :: v122 :: v123 :: v124 :: v125 :: v126 :: v127 :: v128 :: v129 :: v130 :: v131 :: v132 :: v133 :: v134 :: v135 :: v136 :: v137 :: v138 :: v139 :: v140 :: v141 :: v142 :: v143 :: v144 :: v145 :: v146 :: v147 :: v148 :: v149 :: v150 :: v151 :: v152 :: v153 :: v154 :: v155 :: v156 :: v157 :: v158 :: v159 :: v160 :: v161 :: v162 :: v163 :: v164 :: v165 :: v166 :: v167 :: v168 :: v169 :: v170 :: v171 :: v172 :: v173 :: v174 :: v175 :: v176 :: v177 :: v178 :: v179 :: v180 :: v181 :: v182 :: v183 :: v184 :: v185 :: v186 :: v187 :: v188 :: v189 :: v190 :: v191 :: v192 :: v193 :: v194 :: v195 :: v196 :: v197 :: v198 :: v199 :: v200 :: v201 :: v202 :: v203 :: v204 :: v205 :: v206 :: v207 :: v208 :: v209 :: v210 :: v211 :: v212 :: v213 :: v214 :: v215 :: v216 :: v217 :: v218 :: v219 :: v220 :: v221 :: v222 :: v223 :: v224 :: v225 :: v226 :: v227 :: v228 :: v229 :: v230 :: v231 :: v232 :: v233 :: v234 :: v235 :: v236 :: v237 :: v238 :: v239 :: v240 :: v241 :: v242 :: v243 :: v244 :: v245 :: v246 :: v247 :: v248 :: v249 :: v250 :: v251 :: v252 :: v253 :: v254 :: v255 :: v256 :: v257 :: v258 :: v259 :: v260 :: v261 :: v262 :: v263 :: v264 :: v265 :: v266 :: v267 :: v268 :: v269 :: v270 :: v271 :: v272 :: v273 :: v274 :: v275 :: v276 :: v277 :: v278 :: v279 :: v280 :: v281 :: v282 :: []).toArray, []⟩ wr) :
    Code.wp Tryd.prog inner54 (Exit.then K Q0) ⟨(v0 :: v1 :: v2 :: v3 :: v4 :: v5 :: v6 :: v7 :: v8 :: v9 :: v10 :: v11 :: v12 :: v13 :: v14 :: v15 :: v16 :: v17 :: v18 :: v19 :: v20 :: v21 :: v22 :: v23 :: v24 :: v25 :: v26 :: v27 :: v28 :: v29 :: v30 :: v31 :: v32 :: v33 :: v34 :: v35 :: v36 :: v37 :: v38 :: v39 :: v40 :: v41 :: v42 :: v43 :: v44 :: v45 :: v46 :: v47 :: v48 :: v49 :: v50 :: v51 :: v52 :: v53 :: v54 :: v55 :: v56 :: v57 :: v58 :: v59 :: v60 :: v61 :: v62 :: v63 :: v64 :: v65 :: v66 :: v67 :: v68 :: v69 :: v70 :: v71 :: v72 :: v73 :: v74 :: v75 :: v76 :: v77 :: v78 :: v79 :: (.int .i64 64 : Value) :: v81 :: v82 :: v83 :: v84 :: v85 :: v86 :: v87 :: v88 :: v89 :: v90 :: v91 :: v92 :: v93 :: v94 :: v95 :: v96 :: v97 :: v98 :: v99 :: v100 :: v101 :: v102 :: v103 :: v104 :: v105 :: v106 :: v107 :: v108 :: v109 :: v110 :: v111 :: v112 :: v113 :: v114 :: v115 :: v116 :: v117 :: v118 :: v119 :: v120 :: v121 :: v122 :: v123 :: v124 :: v125 :: v126 :: v127 :: v128 :: v129 :: v130 :: v131 :: v132 :: v133 :: v134 :: v135 :: v136 :: v137 :: v138 :: v139 :: v140 :: v141 :: v142 :: v143 :: v144 :: v145 :: v146 :: v147 :: v148 :: v149 :: v150 :: v151 :: v152 :: v153 :: v154 :: v155 :: v156 :: v157 :: v158 :: v159 :: v160 :: v161 :: v162 :: v163 :: v164 :: v165 :: v166 :: v167 :: v168 :: v169 :: v170 :: v171 :: v172 :: v173 :: v174 :: v175 :: v176 :: v177 :: v178 :: v179 :: v180 :: v181 :: v182 :: v183 :: v184 :: v185 :: v186 :: v187 :: v188 :: v189 :: v190 :: v191 :: v192 :: v193 :: v194 :: v195 :: v196 :: v197 :: v198 :: v199 :: v200 :: v201 :: v202 :: v203 :: v204 :: v205 :: v206 :: v207 :: v208 :: v209 :: v210 :: v211 :: v212 :: v213 :: v214 :: v215 :: v216 :: v217 :: v218 :: v219 :: v220 :: v221 :: v222 :: v223 :: v224 :: v225 :: v226 :: v227 :: v228 :: v229 :: v230 :: v231 :: v232 :: v233 :: v234 :: v235 :: v236 :: v237 :: v238 :: v239 :: v240 :: v241 :: v242 :: v243 :: v244 :: v245 :: v246 :: v247 :: v248 :: v249 :: v250 :: v251 :: v252 :: v253 :: v254 :: v255 :: v256 :: v257 :: v258 :: v259 :: v260 :: v261 :: v262 :: v263 :: v264 :: v265 :: v266 :: v267 :: v268 :: v269 :: v270 :: v271 :: v272 :: v273 :: v274 :: v275 :: v276 :: v277 :: v278 :: v279 :: v280 :: v281 :: v282 :: []).toArray, []⟩ wr := by
  conv => arg 2; whnf
  have HX := Aside0.mk hx
  clear hx
  go_wp2
  exact HX.out _

set_option maxHeartbeats 16000000 in
set_option maxRecDepth 100000 in
theorem inner_loop {Q0 : Exit → Act → World → Prop} {v0 v2 v3 v5 v6 v7 v8 v9 v10 v11 v12 v21 v22 v23 v24 v25 v26 v27 v28 v29 v30 v31 v32 v33 v34 v35 v36 v37 v38 v39 v40 v41 v42 v43 v44 v45 v46 v47 v48 v49 v50 v51 v52 v53 v54 v55 v56 v57 v58 v59 v60 v61 v62 v63 v64 v65 v66 v67 v68 v69 v70 v71 v72 v73 v74 v75 v76 v77 v78 v79 v81 v82 v83 v84 v85 v86 v87 v88 v89 v90 v91 v92 v93 v94 v95 v96 v97 v98 v99 v100 v101 v102 v103 v104 v105 v106 v107 v108 v109 v110 v111 v112 v113 v114 v115 v116 v117 v118 v119 v120 v121 v122 v123 v124 v125 v126 v127 v128 v129 v130 v131 v132 v133 v134 v135 v136 v137 v138 v139 v140 v141 v142 v143 v144 v145 v146 v147 v148 v149 v150 v151 v152 v153 v154 v155 v156 v157 v158 v159 v160 v161 v162 v163 v164 v165 v166 v167 v168 v169 v170 v171 v172 v173 v174 v175 v176 v177 v178 v179 v180 v181 v182 v183 v184 v185 v186 v187 v188 v189 v190 v191 v192 v193 v194 v195 v196 v197 v198 v199 v200 v201 v202 v203 v204 v205 v206 v207 v208 v209 v210 v211 v212 v213 v214 v215 v216 v217 v218 v219 v220 v221 v222 v223 v224 v225 v226 v227 v228 v229 v230 v231 v232 v233 v234 v235 v236 v237 v238 v239 v240 v241 v242 v243 v244 v245 v246 v247 v248 v249 v250 v251 v252 v253 v254 v255 v256 v257 v258 v259 v260 v261 v262 v263 v264 v265 v266 v267 v268 v269 v270 v271 v272 v273 v274 v275 v276 v277 v278 v279 v280 v281 v282 : Value} (wr : World) {b p P L c B : Nat} {y0 y1 y2 y3 y4 y5 y6 y7 : Int} {q ws Kt : List Int}
    (hL : 64 ≤ L) (hc : c ≤ 9223372036854775807) (hLc : L ≤ c) (hU : Wd wr 43 B ws) (hK4 : Wd wr 43 4 Kt) (h4B : 4 ≠ B) (hbB : b ≠ B)
    (hq : ∀ j, j < 64 → wr.cell? ⟨b, p + j, none⟩ = some (.int .u8 (q.getD (P + j) 0))) (hq8 : ∀ j, 0 ≤ q.getD j 0 ∧ q.getD j 0 ≤ 255)
    (hx : ∀ (t21 t22 t23 t24 t25 t26 t27 t28 t80 t81 t82 t83 t84 t85 t86 t87 t88 t89 t90 t91 t92 t93 t94 t95 t96 t97 t98 t99 t100 t101 t102 t103 t104 t105 t106 t107 t108 t109 t110 t111 t112 t113 t114 t115 t116 t117 t118 t119 t120 t121 t122 t123 t124 t125 t126 t127 t128 t129 t130 t131 t132 t133 t134 t135 t136 t137 t138 t139 t140 t141 t142 t143 t144 t145 t146 t147 t148 t149 t150 t151 t152 t153 t154 t155 t156 t157 t158 t159 t160 t161 t162 t163 t164 t165 t166 t167 t168 t169 t170 t171 t172 t173 t174 t175 t176 t177 t178 t179 t180 t181 t182 t183 t184 t185 t186 t187 t188 t189 t190 t191 t192 t193 t194 t195 t196 t197 t198 t199 t200 t201 t202 t203 t204 t205 t206 t207 t208 t209 t210 t211 t212 t213 t214 t215 t216 : Value) (z0 z1 z2 z3 z4 z5 z6 z7 : Int) (us : List Int) (wz : World), rnds Kt q P 64 (ws, [y0, y1, y2, y3, y4, y5, y6, y7]) = (us, [z0, z1, z2, z3, z4, z5, z6, z7]) → Wd wz 43 B us → wr.grownBy wz (some B) → Q0 (.exit 2) ⟨(v0 :: (.slice (some ⟨b, p, none⟩) L c : Value) :: v2 :: v3 :: (.pointer (some ⟨B, 0, none⟩) : Value) :: v5 :: v6 :: v7 :: v8 :: v9 :: v10 :: v11 :: v12 :: (.int .u32 z0 : Value) :: (.int .u32 z1 : Value) :: (.int .u32 z2 : Value) :: (.int .u32 z3 : Value) :: (.int .u32 z4 : Value) :: (.int .u32 z5 : Value) :: (.int .u32 z6 : Value) :: (.int .u32 z7 : Value) :: t21 :: t22 :: t23 :: t24 :: t25 :: t26 :: t27 :: t28 :: v29 :: v30 :: v31 :: v32 :: v33 :: v34 :: v35 :: v36 :: v37 :: v38 :: v39 :: v40 :: v41 :: v42 :: v43 :: v44 :: v45 :: v46 :: v47 :: v48 :: v49 :: v50 :: v51 :: v52 :: v53 :: v54 :: v55 :: v56 :: v57 :: v58 :: v59 :: v60 :: v61 :: v62 :: v63 :: v64 :: v65 :: v66 :: v67 :: v68 :: v69 :: v70 :: v71 :: v72 :: v73 :: v74 :: v75 :: v76 :: v77 :: v78 :: v79 :: t80 :: t81 :: t82 :: t83 :: t84 :: t85 :: t86 :: t87 :: t88 :: t89 :: t90 :: t91 :: t92 :: t93 :: t94 :: t95 :: t96 :: t97 :: t98 :: t99 :: t100 :: t101 :: t102 :: t103 :: t104 :: t105 :: t106 :: t107 :: t108 :: t109 :: t110 :: t111 :: t112 :: t113 :: t114 :: t115 :: t116 :: t117 :: t118 :: t119 :: t120 :: t121 :: t122 :: t123 :: t124 :: t125 :: t126 :: t127 :: t128 :: t129 :: t130 :: t131 :: t132 :: t133 :: t134 :: t135 :: t136 :: t137 :: t138 :: t139 :: t140 :: t141 :: t142 :: t143 :: t144 :: t145 :: t146 :: t147 :: t148 :: t149 :: t150 :: t151 :: t152 :: t153 :: t154 :: t155 :: t156 :: t157 :: t158 :: t159 :: t160 :: t161 :: t162 :: t163 :: t164 :: t165 :: t166 :: t167 :: t168 :: t169 :: t170 :: t171 :: t172 :: t173 :: t174 :: t175 :: t176 :: t177 :: t178 :: t179 :: t180 :: t181 :: t182 :: t183 :: t184 :: t185 :: t186 :: t187 :: t188 :: t189 :: t190 :: t191 :: t192 :: t193 :: t194 :: t195 :: t196 :: t197 :: t198 :: t199 :: t200 :: t201 :: t202 :: t203 :: t204 :: t205 :: t206 :: t207 :: t208 :: t209 :: t210 :: t211 :: t212 :: t213 :: t214 :: t215 :: t216 :: v217 :: v218 :: v219 :: v220 :: v221 :: v222 :: v223 :: v224 :: v225 :: v226 :: v227 :: v228 :: v229 :: v230 :: v231 :: v232 :: v233 :: v234 :: v235 :: v236 :: v237 :: v238 :: v239 :: v240 :: v241 :: v242 :: v243 :: v244 :: v245 :: v246 :: v247 :: v248 :: v249 :: v250 :: v251 :: v252 :: v253 :: v254 :: v255 :: v256 :: v257 :: v258 :: v259 :: v260 :: v261 :: v262 :: v263 :: v264 :: v265 :: v266 :: v267 :: v268 :: v269 :: v270 :: v271 :: v272 :: v273 :: v274 :: v275 :: v276 :: v277 :: v278 :: v279 :: v280 :: v281 :: v282 :: []).toArray, []⟩ wz) :
    Code.wp Tryd.prog (Code.loop inner54) Q0 ⟨(v0 :: (.slice (some ⟨b, p, none⟩) L c : Value) :: v2 :: v3 :: (.pointer (some ⟨B, 0, none⟩) : Value) :: v5 :: v6 :: v7 :: v8 :: v9 :: v10 :: v11 :: v12 :: (.int .u32 y0 : Value) :: (.int .u32 y1 : Value) :: (.int .u32 y2 : Value) :: (.int .u32 y3 : Value) :: (.int .u32 y4 : Value) :: (.int .u32 y5 : Value) :: (.int .u32 y6 : Value) :: (.int .u32 y7 : Value) :: v21 :: v22 :: v23 :: v24 :: v25 :: v26 :: v27 :: v28 :: v29 :: v30 :: v31 :: v32 :: v33 :: v34 :: v35 :: v36 :: v37 :: v38 :: v39 :: v40 :: v41 :: v42 :: v43 :: v44 :: v45 :: v46 :: v47 :: v48 :: v49 :: v50 :: v51 :: v52 :: v53 :: v54 :: v55 :: v56 :: v57 :: v58 :: v59 :: v60 :: v61 :: v62 :: v63 :: v64 :: v65 :: v66 :: v67 :: v68 :: v69 :: v70 :: v71 :: v72 :: v73 :: v74 :: v75 :: v76 :: v77 :: v78 :: v79 :: (.int .i64 0 : Value) :: v81 :: v82 :: v83 :: v84 :: v85 :: v86 :: v87 :: v88 :: v89 :: v90 :: v91 :: v92 :: v93 :: v94 :: v95 :: v96 :: v97 :: v98 :: v99 :: v100 :: v101 :: v102 :: v103 :: v104 :: v105 :: v106 :: v107 :: v108 :: v109 :: v110 :: v111 :: v112 :: v113 :: v114 :: v115 :: v116 :: v117 :: v118 :: v119 :: v120 :: v121 :: v122 :: v123 :: v124 :: v125 :: v126 :: v127 :: v128 :: v129 :: v130 :: v131 :: v132 :: v133 :: v134 :: v135 :: v136 :: v137 :: v138 :: v139 :: v140 :: v141 :: v142 :: v143 :: v144 :: v145 :: v146 :: v147 :: v148 :: v149 :: v150 :: v151 :: v152 :: v153 :: v154 :: v155 :: v156 :: v157 :: v158 :: v159 :: v160 :: v161 :: v162 :: v163 :: v164 :: v165 :: v166 :: v167 :: v168 :: v169 :: v170 :: v171 :: v172 :: v173 :: v174 :: v175 :: v176 :: v177 :: v178 :: v179 :: v180 :: v181 :: v182 :: v183 :: v184 :: v185 :: v186 :: v187 :: v188 :: v189 :: v190 :: v191 :: v192 :: v193 :: v194 :: v195 :: v196 :: v197 :: v198 :: v199 :: v200 :: v201 :: v202 :: v203 :: v204 :: v205 :: v206 :: v207 :: v208 :: v209 :: v210 :: v211 :: v212 :: v213 :: v214 :: v215 :: v216 :: v217 :: v218 :: v219 :: v220 :: v221 :: v222 :: v223 :: v224 :: v225 :: v226 :: v227 :: v228 :: v229 :: v230 :: v231 :: v232 :: v233 :: v234 :: v235 :: v236 :: v237 :: v238 :: v239 :: v240 :: v241 :: v242 :: v243 :: v244 :: v245 :: v246 :: v247 :: v248 :: v249 :: v250 :: v251 :: v252 :: v253 :: v254 :: v255 :: v256 :: v257 :: v258 :: v259 :: v260 :: v261 :: v262 :: v263 :: v264 :: v265 :: v266 :: v267 :: v268 :: v269 :: v270 :: v271 :: v272 :: v273 :: v274 :: v275 :: v276 :: v277 :: v278 :: v279 :: v280 :: v281 :: v282 :: []).toArray, []⟩ wr := by
  conv => arg 2; arg 1; whnf
  have HX := Aside0.mk hx
  clear hx
  obtain ⟨wo, hwo⟩ : ∃ wo : World, wo = wr := ⟨_, rfl⟩
  subst hwo
  go_loopg [13, 14, 15, 16, 17, 18, 19, 20, 80] 64 (fun k v13 v14 v15 v16 v17 v18 v19 v20 v80 wi => ∃ (i : Nat) (a0 a1 a2 a3 a4 a5 a6 a7 : Int), v80 = .int .i64 i ∧ v13 = .int .u32 a0 ∧ v14 = .int .u32 a1 ∧ v15 = .int .u32 a2 ∧ v16 = .int .u32 a3 ∧ v17 = .int .u32 a4 ∧ v18 = .int .u32 a5 ∧ v19 = .int .u32 a6 ∧ v20 = .int .u32 a7 ∧ Aside0 (i + k = 64) ∧ Aside0 (∃ us, rnds Kt q P i (ws, [y0, y1, y2, y3, y4, y5, y6, y7]) = (us, [a0, a1, a2, a3, a4, a5, a6, a7]) ∧ Wd wi 43 B us) ∧ Aside0 (wo.grownBy wi (some B)))
  case atStart => exact ⟨0, y0, y1, y2, y3, y4, y5, y6, y7, rfl, rfl, rfl, rfl, rfl, rfl, rfl, rfl, rfl, Aside0.mk rfl, Aside0.mk ⟨ws, rfl, hU⟩, Aside0.mk (World.grownBy.refl _ _)⟩
  case round =>
    rename_i K_ hJ_ hK_
    obtain ⟨i, a0, a1, a2, a3, a4, a5, a6, a7, rfl, rfl, rfl, rfl, rfl, rfl, rfl, rfl, rfl, HI, HR, HG⟩ := hrel
    obtain ⟨us, hus, hwu⟩ := HR.out
    by_cases hi : i < 64
    · refine inner_round wr hi hL hc hLc hwu (hK4.grown HG.out (fun e => h4B (Option.some.inj e))) h4B hbB (fun j hj => HG.out.cell (hq j hj) (fun e => hbB (Option.some.inj e))) hq8 ?_
      intro t21 t22 t23 t24 t25 t26 t27 t28 t81 t82 t83 t84 t85 t86 t87 t88 t89 t90 t91 t92 t93 t94 t95 t96 t97 t98 t99 t100 t101 t102 t103 t104 t105 t106 t107 t108 t109 t110 t111 t112 t113 t114 t115 t116 t117 t118 t119 t120 t121 t122 t123 t124 t125 t126 t127 t128 t129 t130 t131 t132 t133 t134 t135 t136 t137 t138 t139 t140 t141 t142 t143 t144 t145 t146 t147 t148 t149 t150 t151 t152 t153 t154 t155 t156 t157 t158 t159 t160 t161 t162 t163 t164 t165 t166 t167 t168 t169 t170 t171 t172 t173 t174 t175 t176 t177 t178 t179 t180 t181 t182 t183 t184 t185 t186 t187 t188 t189 t190 t191 t192 t193 t194 t195 t196 t197 t198 t199 t200 t201 t202 t203 t204 t205 t206 t207 t208 t209 t210 t211 t212 t213 t214 t215 t216 z0 z1 z2 z3 z4 z5 z6 z7 us' wz hs hwz hgz
      refine hK_ _ _ (Handed.intro (gk - 1) (by have := HI.out; omega) (hJ_ _ _ _ ?_))
      (repeat apply Exists.intro)
      refine ⟨⟨i + 1, _, _, _, _, _, _, _, _, by go_num, rfl, rfl, rfl, rfl, rfl, rfl, rfl, rfl, Aside0.mk (by have := HI.out; omega), Aside0.mk ⟨us', ?_, hwz⟩, Aside0.mk (HG.out.trans hgz)⟩, rfl⟩
      show stp Kt q P i (rnds Kt q P i _) = _
      rw [hus]
      exact hs
    · obtain rfl : i = 64 := by have := HI.out; omega
      refine inner_end wr (fun t81 => ?_)
      exact HX.out _ _ _ _ _ _ _ _ _ _ _ _ _ _ _ _ _ _ _ _ _ _ _ _ _ _ _ _ _ _ _ _ _ _ _ _ _ _ _ _ _ _ _ _ _ _ _ _ _ _ _ _ _ _ _ _ _ _ _ _ _ _ _ _ _ _ _ _ _ _ _ _ _ _ _ _ _ _ _ _ _ _ _ _ _ _ _ _ _ _ _ _ _ _ _ _ _ _ _ _ _ _ _ _ _ _ _ _ _ _ _ _ _ _ _ _ _ _ _ _ _ _ _ _ _ _ _ _ _ _ _ _ _ _ _ _ _ _ _ _ _ _ _ _ _ _ _ _ _ _ _ _ _ us wr hus hwu HG.out

set_option maxHeartbeats 16000000 in
set_option maxRecDepth 100000 in
theorem outer_round {K : Act → World → Prop} {Q0 : Exit → Act → World → Prop} {v0 v2 v3 v13 v14 v15 v16 v17 v18 v19 v20 v21 v22 v23 v24 v25 v26 v27 v28 v29 v30 v31 v32 v33 v34 v35 v36 v37 v38 v39 v40 v41 v42 v43 v44 v45 v46 v47 v48 v49 v50 v51 v52 v53 v54 v55 v56 v57 v58 v59 v60 v61 v62 v63 v64 v65 v66 v67 v68 v69 v70 v71 v72 v73 v74 v75 v76 v77 v78 v79 v80 v81 v82 v83 v84 v85 v86 v87 v88 v89 v90 v91 v92 v93 v94 v95 v96 v97 v98 v99 v100 v101 v102 v103 v104 v105 v106 v107 v108 v109 v110 v111 v112 v113 v114 v115 v116 v117 v118 v119 v120 v121 v122 v123 v124 v125 v126 v127 v128 v129 v130 v131 v132 v133 v134 v135 v136 v137 v138 v139 v140 v141 v142 v143 v144 v145 v146 v147 v148 v149 v150 v151 v152 v153 v154 v155 v156 v157 v158 v159 v160 v161 v162 v163 v164 v165 v166 v167 v168 v169 v170 v171 v172 v173 v174 v175 v176 v177 v178 v179 v180 v181 v182 v183 v184 v185 v186 v187 v188 v189 v190 v191 v192 v193 v194 v195 v196 v197 v198 v199 v200 v201 v202 v203 v204 v205 v206 v207 v208 v209 v210 v211 v212 v213 v214 v215 v216 v217 v218 v219 v220 v221 v222 v223 v224 v225 v226 v227 v228 v229 v230 v231 v232 v233 v234 v235 v236 v237 v238 v239 v240 v241 v242 v243 v244 v245 v246 v247 v248 v249 v250 v251 v252 v253 v254 v255 v256 v257 v258 v259 v260 v261 v262 v263 v264 v265 v266 v267 v268 v269 v270 v271 v272 v273 v274 v275 v276 v277 v278 v279 v280 v281 v282 : Value} (wr : World) {b p P L c B : Nat} {x0 x1 x2 x3 x4 x5 x6 x7 : Int} {q ws Kt : List Int}
    (hL : 64 ≤ L) (hc : c ≤ 9223372036854775807) (hLc : L ≤ c) (hU : Wd wr 43 B ws) (hK4 : Wd wr 43 4 Kt) (h4B : 4 ≠ B) (hbB : b ≠ B)
    (hq : ∀ j, j < 64 → wr.cell? ⟨b, p + j, none⟩ = some (.int .u8 (q.getD (P + j) 0))) (hq8 : ∀ j, 0 ≤ q.getD j 0 ∧ q.getD j 0 ≤ 255)
    (hK : ∀ (t13 t14 t15 t16 t17 t18 t19 t20 t21 t22 t23 t24 t25 t26 t27 t28 t69 t70 t71 t72 t73 t74 t75 t76 t77 t78 t79 t80 t81 t82 t83 t84 t85 t86 t87 t88 t89 t90 t91 t92 t93 t94 t95 t96 t97 t98 t99 t100 t101 t102 t103 t104 t105 t106 t107 t108 t109 t110 t111 t112 t113 t114 t115 t116 t117 t118 t119 t120 t121 t122 t123 t124 t125 t126 t127 t128 t129 t130 t131 t132 t133 t134 t135 t136 t137 t138 t139 t140 t141 t142 t143 t144 t145 t146 t147 t148 t149 t150 t151 t152 t153 t154 t155 t156 t157 t158 t159 t160 t161 t162 t163 t164 t165 t166 t167 t168 t169 t170 t171 t172 t173 t174 t175 t176 t177 t178 t179 t180 t181 t182 t183 t184 t185 t186 t187 t188 t189 t190 t191 t192 t193 t194 t195 t196 t197 t198 t199 t200 t201 t202 t203 t204 t205 t206 t207 t208 t209 t210 t211 t212 t213 t214 t215 t216 t217 t218 t219 t220 t221 t222 t223 t224 t225 t226 t227 t228 t229 t230 t231 t232 t233 t234 t235 t236 t237 t238 t239 t240 t241 t242 : Value) (z0 z1 z2 z3 z4 z5 z6 z7 : Int) (us : List Int) (A : Option Addr) (C : Nat) (wz : World), chunk Kt q P (ws, [x0, x1, x2, x3, x4, x5, x6, x7]) = (us, [z0, z1, z2, z3, z4, z5, z6, z7]) → Wd wz 43 B us → wr.grownBy wz (some B) → (64 < c → A = some ⟨b, p + 64, none⟩) → C = c - 64 → K ⟨(v0 :: (.slice A (L - 64) C : Value) :: v2 :: v3 :: (.pointer (some ⟨B, 0, none⟩) : Value) :: (.int .u32 z0 : Value) :: (.int .u32 z1 : Value) :: (.int .u32 z2 : Value) :: (.int .u32 z3 : Value) :: (.int .u32 z4 : Value) :: (.int .u32 z5 : Value) :: (.int .u32 z6 : Value) :: (.int .u32 z7 : Value) :: t13 :: t14 :: t15 :: t16 :: t17 :: t18 :: t19 :: t20 :: t21 :: t22 :: t23 :: t24 :: t25 :: t26 :: t27 :: t28 :: v29 :: v30 :: v31 :: v32 :: v33 :: v34 :: v35 :: v36 :: v37 :: v38 :: v39 :: v40 :: v41 :: v42 :: v43 :: v44 :: v45 :: v46 :: v47 :: v48 :: v49 :: v50 :: v51 :: v52 :: v53 :: v54 :: v55 :: v56 :: v57 :: v58 :: v59 :: v60 :: v61 :: v62 :: v63 :: v64 :: v65 :: v66 :: v67 :: v68 :: t69 :: t70 :: t71 :: t72 :: t73 :: t74 :: t75 :: t76 :: t77 :: t78 :: t79 :: t80 :: t81 :: t82 :: t83 :: t84 :: t85 :: t86 :: t87 :: t88 :: t89 :: t90 :: t91 :: t92 :: t93 :: t94 :: t95 :: t96 :: t97 :: t98 :: t99 :: t100 :: t101 :: t102 :: t103 :: t104 :: t105 :: t106 :: t107 :: t108 :: t109 :: t110 :: t111 :: t112 :: t113 :: t114 :: t115 :: t116 :: t117 :: t118 :: t119 :: t120 :: t121 :: t122 :: t123 :: t124 :: t125 :: t126 :: t127 :: t128 :: t129 :: t130 :: t131 :: t132 :: t133 :: t134 :: t135 :: t136 :: t137 :: t138 :: t139 :: t140 :: t141 :: t142 :: t143 :: t144 :: t145 :: t146 :: t147 :: t148 :: t149 :: t150 :: t151 :: t152 :: t153 :: t154 :: t155 :: t156 :: t157 :: t158 :: t159 :: t160 :: t161 :: t162 :: t163 :: t164 :: t165 :: t166 :: t167 :: t168 :: t169 :: t170 :: t171 :: t172 :: t173 :: t174 :: t175 :: t176 :: t177 :: t178 :: t179 :: t180 :: t181 :: t182 :: t183 :: t184 :: t185 :: t186 :: t187 :: t188 :: t189 :: t190 :: t191 :: t192 :: t193 :: t194 :: t195 :: t196 :: t197 :: t198 :: t199 :: t200 :: t201 :: t202 :: t203 :: t204 :: t205 :: t206 :: t207 :: t208 :: t209 :: t210 :: t211 :: t212 :: t213 :: t214 :: t215 :: t216 :: t217 :: t218 :: t219 :: t220 :: t221 :: t222 :: t223 :: t224 :: t225 :: t226 :: t227 :: t228 :: t229 :: t230 :: t231 :: t232 :: t233 :: t234 :: t235 :: t236 :: t237 :: t238 :: t239 :: t240 :: t241 :: t242 :: v243 :: v244 :: v245 :: v246 :: v247 :: v248 :: v249 :: v250 :: v251 :: v252 :: v253 :: v254 :: v255 :: v256 :: v257 :: v258 :: v259 :: v260 :: v261 :: v262 :: v263 :: v264 :: v265 :: v266 :: v267 :: v268 :: v269 :: v270 :: v271 :: v272 :: v273 :: v274 :: v275 :: v276 :: v277 :: v278 :: v279 :: v280 :: v281 :: v282 :: []).toArray, []⟩ wz) :
    Code.wp Tryd.prog outer54 (Exit.then K Q0) ⟨(v0 :: (.slice (some ⟨b, p, none⟩) L c : Value) :: v2 :: v3 :: (.pointer (some ⟨B, 0, none⟩) : Value) :: (.int .u32 x0 : Value) :: (.int .u32 x1 : Value) :: (.int .u32 x2 : Value) :: (.int .u32 x3 : Value) :: (.int .u32 x4 : Value) :: (.int .u32 x5 : Value) :: (.int .u32 x6 : Value) :: (.int .u32 x7 : Value) :: v13 :: v14 :: v15 :: v16 :: v17 :: v18 :: v19 :: v20 :: v21 :: v22 :: v23 :: v24 :: v25 :: v26 :: v27 :: v28 :: v29 :: v30 :: v31 :: v32 :: v33 :: v34 :: v35 :: v36 :: v37 :: v38 :: v39 :: v40 :: v41 :: v42 :: v43 :: v44 :: v45 :: v46 :: v47 :: v48 :: v49 :: v50 :: v51 :: v52 :: v53 :: v54 :: v55 :: v56 :: v57 :: v58 :: v59 :: v60 :: v61 :: v62 :: v63 :: v64 :: v65 :: v66 :: v67 :: v68 :: v69 :: v70 :: v71 :: v72 :: v73 :: v74 :: v75 :: v76 :: v77 :: v78 :: v79 :: v80 :: v81 :: v82 :: v83 :: v84 :: v85 :: v86 :: v87 :: v88 :: v89 :: v90 :: v91 :: v92 :: v93 :: v94 :: v95 :: v96 :: v97 :: v98 :: v99 :: v100 :: v101 :: v102 :: v103 :: v104 :: v105 :: v106 :: v107 :: v108 :: v109 :: v110 :: v111 :: v112 :: v113 :: v114 :: v115 :: v116 :: v117 :: v118 :: v119 :: v120 :: v121 :: v122 :: v123 :: v124 :: v125 :: v126 :: v127 :: v128 :: v129 :: v130 :: v131 :: v132 :: v133 :: v134 :: v135 :: v136 :: v137 :: v138 :: v139 :: v140 :: v141 :: v142 :: v143 :: v144 :: v145 :: v146 :: v147 :: v148 :: v149 :: v150 :: v151 :: v152 :: v153 :: v154 :: v155 :: v156 :: v157 :: v158 :: v159 :: v160 :: v161 :: v162 :: v163 :: v164 :: v165 :: v166 :: v167 :: v168 :: v169 :: v170 :: v171 :: v172 :: v173 :: v174 :: v175 :: v176 :: v177 :: v178 :: v179 :: v180 :: v181 :: v182 :: v183 :: v184 :: v185 :: v186 :: v187 :: v188 :: v189 :: v190 :: v191 :: v192 :: v193 :: v194 :: v195 :: v196 :: v197 :: v198 :: v199 :: v200 :: v201 :: v202 :: v203 :: v204 :: v205 :: v206 :: v207 :: v208 :: v209 :: v210 :: v211 :: v212 :: v213 :: v214 :: v215 :: v216 :: v217 :: v218 :: v219 :: v220 :: v221 :: v222 :: v223 :: v224 :: v225 :: v226 :: v227 :: v228 :: v229 :: v230 :: v231 :: v232 :: v233 :: v234 :: v235 :: v236 :: v237 :: v238 :: v239 :: v240 :: v241 :: v242 :: v243 :: v244 :: v245 :: v246 :: v247 :: v248 :: v249 :: v250 :: v251 :: v252 :: v253 :: v254 :: v255 :: v256 :: v257 :: v258 :: v259 :: v260 :: v261 :: v262 :: v263 :: v264 :: v265 :: v266 :: v267 :: v268 :: v269 :: v270 :: v271 :: v272 :: v273 :: v274 :: v275 :: v276 :: v277 :: v278 :: v279 :: v280 :: v281 :: v282 :: []).toArray, []⟩ wr := by
  conv => arg 2; whnf
  have HK1 := Aside0.mk hK
  have HU := Aside0.mk hU
  have HK4 := Aside0.mk hK4
  have H4B := Aside0.mk h4B
  have HBB := Aside0.mk hbB
  have HQ := Aside0.mk hq
  have HQ8 := Aside0.mk hq8
  clear hK hU hK4 h4B hbB hq hq8
  go_wp2
  refine inner_loop wr (P := P) (Kt := Kt) (q := q) hL hc hLc HU.out HK4.out H4B.out HBB.out HQ.out HQ8.out ?_
  intro t21 t22 t23 t24 t25 t26 t27 t28 t80 t81 t82 t83 t84 t85 t86 t87 t88 t89 t90 t91 t92 t93 t94 t95 t96 t97 t98 t99 t100 t101 t102 t103 t104 t105 t106 t107 t108 t109 t110 t111 t112 t113 t114 t115 t116 t117 t118 t119 t120 t121 t122 t123 t124 t125 t126 t127 t128 t129 t130 t131 t132 t133 t134 t135 t136 t137 t138 t139 t140 t141 t142 t143 t144 t145 t146 t147 t148 t149 t150 t151 t152 t153 t154 t155 t156 t157 t158 t159 t160 t161 t162 t163 t164 t165 t166 t167 t168 t169 t170 t171 t172 t173 t174 t175 t176 t177 t178 t179 t180 t181 t182 t183 t184 t185 t186 t187 t188 t189 t190 t191 t192 t193 t194 t195 t196 t197 t198 t199 t200 t201 t202 t203 t204 t205 t206 t207 t208 t209 t210 t211 t212 t213 t214 t215 t216 y0 y1 y2 y3 y4 y5 y6 y7 us wz hus hwz hgz
  have HUS := Aside0.mk hus
  have HWZ := Aside0.mk hwz
  have HGZ := Aside0.mk hgz
  clear hus hwz hgz
  by_cases hcc : c = 64
  all_goals
    go_wp2
    refine HK1.out _ _ _ _ _ _ _ _ _ _ _ _ _ _ _ _ _ _ _ _ _ _ _ _ _ _ _ _ _ _ _ _ _ _ _ _ _ _ _ _ _ _ _ _ _ _ _ _ _ _ _ _ _ _ _ _ _ _ _ _ _ _ _ _ _ _ _ _ _ _ _ _ _ _ _ _ _ _ _ _ _ _ _ _ _ _ _ _ _ _ _ _ _ _ _ _ _ _ _ _ _ _ _ _ _ _ _ _ _ _ _ _ _ _ _ _ _ _ _ _ _ _ _ _ _ _ _ _ _ _ _ _ _ _ _ _ _ _ _ _ _ _ _ _ _ _ _ _ _ _ _ _ _ _ _ _ _ _ _ _ _ _ _ _ _ _ _ _ _ _ _ _ _ _ _ _ _ _ _ _ _ _ _ _ _ _ _ _ _ _ _ _ _ _ _ _ _ _ us _ _ _ ?_ HWZ.out HGZ.out (fun h => ?_) (by omega)
    · rw [chunk, HUS.out]
    · first | rfl | (exfalso; omega)

set_option maxHeartbeats 16000000 in
set_option maxRecDepth 100000 in
theorem outer_end {K : Act → World → Prop} {Q0 : Exit → Act → World → Prop} {v0 v2 v3 v4 v5 v6 v7 v8 v9 v10 v11 v12 v13 v14 v15 v16 v17 v18 v19 v20 v21 v22 v23 v24 v25 v26 v27 v28 v29 v30 v31 v32 v33 v34 v35 v36 v37 v38 v39 v40 v41 v42 v43 v44 v45 v46 v47 v48 v49 v50 v51 v52 v53 v54 v55 v56 v57 v58 v59 v60 v61 v62 v63 v64 v65 v66 v67 v68 v69 v70 v71 v72 v73 v74 v75 v76 v77 v78 v79 v80 v81 v82 v83 v84 v85 v86 v87 v88 v89 v90 v91 v92 v93 v94 v95 v96 v97 v98 v99 v100 v101 v102 v103 v104 v105 v106 v107 v108 v109 v110 v111 v112 v113 v114 v115 v116 v117 v118 v119 v120 v121 v122 v123 v124 v125 v126 v127 v128 v129 v130 v131 v132 v133 v134 v135 v136 v137 v138 v139 v140 v141 v142 v143 v144 v145 v146 v147 v148 v149 v150 v151 v152 v153 v154 v155 v156 v157 v158 v159 v160 v161 v162 v163 v164 v165 v166 v167 v168 v169 v170 v171 v172 v173 v174 v175 v176 v177 v178 v179 v180 v181 v182 v183 v184 v185 v186 v187 v188 v189 v190 v191 v192 v193 v194 v195 v196 v197 v198 v199 v200 v201 v202 v203 v204 v205 v206 v207 v208 v209 v210 v211 v212 v213 v214 v215 v216 v217 v218 v219 v220 v221 v222 v223 v224 v225 v226 v227 v228 v229 v230 v231 v232 v233 v234 v235 v236 v237 v238 v239 v240 v241 v242 v243 v244 v245 v246 v247 v248 v249 v250 v251 v252 v253 v254 v255 v256 v257 v258 v259 v260 v261 v262 v263 v264 v265 v266 v267 v268 v269 v270 v271 v272 v273 v274 v275 v276 v277 v278 v279 v280 v281 v282 : Value} (wr : World) {A : Option Addr} {L c : Nat} (hL : L < 64)
    (hx : ∀ t69 t70 t71 : Value, Q0 (.exit 0) ⟨(v0 :: (.slice A L c : Value) :: v2 :: v3 :: v4 :: v5 :: v6 :: v7 :: v8 :: v9 :: v10 :: v11 :: v12 :: v13 :: v14 :: v15 :: v16 :: v17 :: v18 :: v19 :: v20 :: v21 :: v22 :: v23 :: v24 :: v25 :: v26 :: v27 :: v28 :: v29 :: v30 :: v31 :: v32 :: v33 :: v34 :: v35 :: v36 :: v37 :: v38 :: v39 :: v40 :: v41 :: v42 :: v43 :: v44 :: v45 :: v46 :: v47 :: v48 :: v49 :: v50 :: v51 :: v52 :: v53 :: v54 :: v55 :: v56 :: v57 :: v58 :: v59 :: v60 :: v61 :: v62 :: v63 :: v64 :: v65 :: v66 :: v67 :: v68 :: t69 :: t70 :: t71 :: v72 :: v73 :: v74 :: v75 :: v76 :: v77 :: v78 :: v79 :: v80 :: v81 :: v82 :: v83 :: v84 :: v85 :: v86 :: v87 :: v88 :: v89 :: v90 :: v91 :: v92 :: v93 :: v94 :: v95 :: v96 :: v97 :: v98 :: v99 :: v100 :: v101 :: v102 :: v103 :: v104 :: v105 :: v106 :: v107 :: v108 :: v109 :: v110 :: v111 :: v112 :: v113 :: v114 :: v115 :: v116 :: v117 :: v118 :: v119 :: v120 :: v121 :: v122 :: v123 :: v124 :: v125 :: v126 :: v127 :: v128 :: v129 :: v130 :: v131 :: v132 :: v133 :: v134 :: v135 :: v136 :: v137 :: v138 :: v139 :: v140 :: v141 :: v142 :: v143 :: v144 :: v145 :: v146 :: v147 :: v148 :: v149 :: v150 :: v151 :: v152 :: v153 :: v154 :: v155 :: v156 :: v157 :: v158 :: v159 :: v160 :: v161 :: v162 :: v163 :: v164 :: v165 :: v166 :: v167 :: v168 :: v169 :: v170 :: v171 :: v172 :: v173 :: v174 :: v175 :: v176 :: v177 :: v178 :: v179 :: v180 :: v181 :: v182 :: v183 :: v184 :: v185 :: v186 :: v187 :: v188 :: v189 :: v190 :: v191 :: v192 :: v193 :: v194 :: v195 :: v196 :: v197 :: v198 :: v199 :: v200 :: v201 :: v202 :: v203 :: v204 :: v205 :: v206 :: v207 :: v208 :: v209 :: v210 :: v211 :: v212 :: v213 :: v214 :: v215 :: v216 :: v217 :: v218 :: v219 :: v220 :: v221 :: v222 :: v223 :: v224 :: v225 :: v226 :: v227 :: v228 :: v229 :: v230 :: v231 :: v232 :: v233 :: v234 :: v235 :: v236 :: v237 :: v238 :: v239 :: v240 :: v241 :: v242 :: v243 :: v244 :: v245 :: v246 :: v247 :: v248 :: v249 :: v250 :: v251 :: v252 :: v253 :: v254 :: v255 :: v256 :: v257 :: v258 :: v259 :: v260 :: v261 :: v262 :: v263 :: v264 :: v265 :: v266 :: v267 :: v268 :: v269 :: v270 :: v271 :: v272 :: v273 :: v274 :: v275 :: v276 :: v277 :: v278 :: v279 :: v280 :: v281 :: v282 :: []).toArray, []⟩ wr) :
    Code.wp Tryd.prog outer54 (Exit.then K Q0) ⟨(v0 :: (.slice A L c : Value) :: v2 :: v3 :: v4 :: v5 :: v6 :: v7 :: v8 :: v9 :: v10 :: v11 :: v12 :: v13 :: v14 :: v15 :: v16 :: v17 :: v18 :: v19 :: v20 :: v21 :: v22 :: v23 :: v24 :: v25 :: v26 :: v27 :: v28 :: v29 :: v30 :: v31 :: v32 :: v33 :: v34 :: v35 :: v36 :: v37 :: v38 :: v39 :: v40 :: v41 :: v42 :: v43 :: v44 :: v45 :: v46 :: v47 :: v48 :: v49 :: v50 :: v51 :: v52 :: v53 :: v54 :: v55 :: v56 :: v57 :: v58 :: v59 :: v60 :: v61 :: v62 :: v63 :: v64 :: v65 :: v66 :: v67 :: v68 :: v69 :: v70 :: v71 :: v72 :: v73 :: v74 :: v75 :: v76 :: v77 :: v78 :: v79 :: v80 :: v81 :: v82 :: v83 :: v84 :: v85 :: v86 :: v87 :: v88 :: v89 :: v90 :: v91 :: v92 :: v93 :: v94 :: v95 :: v96 :: v97 :: v98 :: v99 :: v100 :: v101 :: v102 :: v103 :: v104 :: v105 :: v106 :: v107 :: v108 :: v109 :: v110 :: v111 :: v112 :: v113 :: v114 :: v115 :: v116 :: v117 :: v118 :: v119 :: v120 :: v121 :: v122 :: v123 :: v124 :: v125 :: v126 :: v127 :: v128 :: v129 :: v130 :: v131 :: v132 :: v133 :: v134 :: v135 :: v136 :: v137 :: v138 :: v139 :: v140 :: v141 :: v142 :: v143 :: v144 :: v145 :: v146 :: v147 :: v148 :: v149 :: v150 :: v151 :: v152 :: v153 :: v154 :: v155 :: v156 :: v157 :: v158 :: v159 :: v160 :: v161 :: v162 :: v163 :: v164 :: v165 :: v166 :: v167 :: v168 :: v169 :: v170 :: v171 :: v172 :: v173 :: v174 :: v175 :: v176 :: v177 :: v178 :: v179 :: v180 :: v181 :: v182 :: v183 :: v184 :: v185 :: v186 :: v187 :: v188 :: v189 :: v190 :: v191 :: v192 :: v193 :: v194 :: v195 :: v196 :: v197 :: v198 :: v199 :: v200 :: v201 :: v202 :: v203 :: v204 :: v205 :: v206 :: v207 :: v208 :: v209 :: v210 :: v211 :: v212 :: v213 :: v214 :: v215 :: v216 :: v217 :: v218 :: v219 :: v220 :: v221 :: v222 :: v223 :: v224 :: v225 :: v226 :: v227 :: v228 :: v229 :: v230 :: v231 :: v232 :: v233 :: v234 :: v235 :: v236 :: v237 :: v238 :: v239 :: v240 :: v241 :: v242 :: v243 :: v244 :: v245 :: v246 :: v247 :: v248 :: v249 :: v250 :: v251 :: v252 :: v253 :: v254 :: v255 :: v256 :: v257 :: v258 :: v259 :: v260 :: v261 :: v262 :: v263 :: v264 :: v265 :: v266 :: v267 :: v268 :: v269 :: v270 :: v271 :: v272 :: v273 :: v274 :: v275 :: v276 :: v277 :: v278 :: v279 :: v280 :: v281 :: v282 :: []).toArray, []⟩ wr := by
  conv => arg 2; whnf
  have HX := Aside0.mk hx
  clear hx
  go_wp2
  exact HX.out _ _ _

set_option maxHeartbeats 16000000 in
set_option maxRecDepth 100000 in
theorem outer_loop {Q0 : Exit → Act → World → Prop} {v0 v2 v3 v13 v14 v15 v16 v17 v18 v19 v20 v21 v22 v23 v24 v25 v26 v27 v28 v29 v30 v31 v32 v33 v34 v35 v36 v37 v38 v39 v40 v41 v42 v43 v44 v45 v46 v47 v48 v49 v50 v51 v52 v53 v54 v55 v56 v57 v58 v59 v60 v61 v62 v63 v64 v65 v66 v67 v68 v69 v70 v71 v72 v73 v74 v75 v76 v77 v78 v79 v80 v81 v82 v83 v84 v85 v86 v87 v88 v89 v90 v91 v92 v93 v94 v95 v96 v97 v98 v99 v100 v101 v102 v103 v104 v105 v106 v107 v108 v109 v110 v111 v112 v113 v114 v115 v116 v117 v118 v119 v120 v121 v122 v123 v124 v125 v126 v127 v128 v129 v130 v131 v132 v133 v134 v135 v136 v137 v138 v139 v140 v141 v142 v143 v144 v145 v146 v147 v148 v149 v150 v151 v152 v153 v154 v155 v156 v157 v158 v159 v160 v161 v162 v163 v164 v165 v166 v167 v168 v169 v170 v171 v172 v173 v174 v175 v176 v177 v178 v179 v180 v181 v182 v183 v184 v185 v186 v187 v188 v189 v190 v191 v192 v193 v194 v195 v196 v197 v198 v199 v200 v201 v202 v203 v204 v205 v206 v207 v208 v209 v210 v211 v212 v213 v214 v215 v216 v217 v218 v219 v220 v221 v222 v223 v224 v225 v226 v227 v228 v229 v230 v231 v232 v233 v234 v235 v236 v237 v238 v239 v240 v241 v242 v243 v244 v245 v246 v247 v248 v249 v250 v251 v252 v253 v254 v255 v256 v257 v258 v259 v260 v261 v262 v263 v264 v265 v266 v267 v268 v269 v270 v271 v272 v273 v274 v275 v276 v277 v278 v279 v280 v281 v282 : Value} (wr : World) {b o n c m B : Nat} {x0 x1 x2 x3 x4 x5 x6 x7 : Int} {q ws Kt : List Int}
    (hn : n = 64 * m) (hc : c ≤ 9223372036854775807) (hnc : n ≤ c) (hU : Wd wr 43 B ws) (hK4 : Wd wr 43 4 Kt) (h4B : 4 ≠ B) (hbB : b ≠ B)
    (hq : ∀ j, j < n → wr.cell? ⟨b, o + j, none⟩ = some (.int .u8 (q.getD j 0))) (hq8 : ∀ j, 0 ≤ q.getD j 0 ∧ q.getD j 0 ≤ 255)
    (hx : ∀ (t1 t13 t14 t15 t16 t17 t18 t19 t20 t21 t22 t23 t24 t25 t26 t27 t28 t69 t70 t71 t72 t73 t74 t75 t76 t77 t78 t79 t80 t81 t82 t83 t84 t85 t86 t87 t88 t89 t90 t91 t92 t93 t94 t95 t96 t97 t98 t99 t100 t101 t102 t103 t104 t105 t106 t107 t108 t109 t110 t111 t112 t113 t114 t115 t116 t117 t118 t119 t120 t121 t122 t123 t124 t125 t126 t127 t128 t129 t130 t131 t132 t133 t134 t135 t136 t137 t138 t139 t140 t141 t142 t143 t144 t145 t146 t147 t148 t149 t150 t151 t152 t153 t154 t155 t156 t157 t158 t159 t160 t161 t162 t163 t164 t165 t166 t167 t168 t169 t170 t171 t172 t173 t174 t175 t176 t177 t178 t179 t180 t181 t182 t183 t184 t185 t186 t187 t188 t189 t190 t191 t192 t193 t194 t195 t196 t197 t198 t199 t200 t201 t202 t203 t204 t205 t206 t207 t208 t209 t210 t211 t212 t213 t214 t215 t216 t217 t218 t219 t220 t221 t222 t223 t224 t225 t226 t227 t228 t229 t230 t231 t232 t233 t234 t235 t236 t237 t238 t239 t240 t241 t242 : Value) (z0 z1 z2 z3 z4 z5 z6 z7 : Int) (us : List Int) (wz : World), chunks Kt q m (ws, [x0, x1, x2, x3, x4, x5, x6, x7]) = (us, [z0, z1, z2, z3, z4, z5, z6, z7]) → wr.grownBy wz (some B) → Q0 (.exit 0) ⟨(v0 :: t1 :: v2 :: v3 :: (.pointer (some ⟨B, 0, none⟩) : Value) :: (.int .u32 z0 : Value) :: (.int .u32 z1 : Value) :: (.int .u32 z2 : Value) :: (.int .u32 z3 : Value) :: (.int .u32 z4 : Value) :: (.int .u32 z5 : Value) :: (.int .u32 z6 : Value) :: (.int .u32 z7 : Value) :: t13 :: t14 :: t15 :: t16 :: t17 :: t18 :: t19 :: t20 :: t21 :: t22 :: t23 :: t24 :: t25 :: t26 :: t27 :: t28 :: v29 :: v30 :: v31 :: v32 :: v33 :: v34 :: v35 :: v36 :: v37 :: v38 :: v39 :: v40 :: v41 :: v42 :: v43 :: v44 :: v45 :: v46 :: v47 :: v48 :: v49 :: v50 :: v51 :: v52 :: v53 :: v54 :: v55 :: v56 :: v57 :: v58 :: v59 :: v60 :: v61 :: v62 :: v63 :: v64 :: v65 :: v66 :: v67 :: v68 :: t69 :: t70 :: t71 :: t72 :: t73 :: t74 :: t75 :: t76 :: t77 :: t78 :: t79 :: t80 :: t81 :: t82 :: t83 :: t84 :: t85 :: t86 :: t87 :: t88 :: t89 :: t90 :: t91 :: t92 :: t93 :: t94 :: t95 :: t96 :: t97 :: t98 :: t99 :: t100 :: t101 :: t102 :: t103 :: t104 :: t105 :: t106 :: t107 :: t108 :: t109 :: t110 :: t111 :: t112 :: t113 :: t114 :: t115 :: t116 :: t117 :: t118 :: t119 :: t120 :: t121 :: t122 :: t123 :: t124 :: t125 :: t126 :: t127 :: t128 :: t129 :: t130 :: t131 :: t132 :: t133 :: t134 :: t135 :: t136 :: t137 :: t138 :: t139 :: t140 :: t141 :: t142 :: t143 :: t144 :: t145 :: t146 :: t147 :: t148 :: t149 :: t150 :: t151 :: t152 :: t153 :: t154 :: t155 :: t156 :: t157 :: t158 :: t159 :: t160 :: t161 :: t162 :: t163 :: t164 :: t165 :: t166 :: t167 :: t168 :: t169 :: t170 :: t171 :: t172 :: t173 :: t174 :: t175 :: t176 :: t177 :: t178 :: t179 :: t180 :: t181 :: t182 :: t183 :: t184 :: t185 :: t186 :: t187 :: t188 :: t189 :: t190 :: t191 :: t192 :: t193 :: t194 :: t195 :: t196 :: t197 :: t198 :: t199 :: t200 :: t201 :: t202 :: t203 :: t204 :: t205 :: t206 :: t207 :: t208 :: t209 :: t210 :: t211 :: t212 :: t213 :: t214 :: t215 :: t216 :: t217 :: t218 :: t219 :: t220 :: t221 :: t222 :: t223 :: t224 :: t225 :: t226 :: t227 :: t228 :: t229 :: t230 :: t231 :: t232 :: t233 :: t234 :: t235 :: t236 :: t237 :: t238 :: t239 :: t240 :: t241 :: t242 :: v243 :: v244 :: v245 :: v246 :: v247 :: v248 :: v249 :: v250 :: v251 :: v252 :: v253 :: v254 :: v255 :: v256 :: v257 :: v258 :: v259 :: v260 :: v261 :: v262 :: v263 :: v264 :: v265 :: v266 :: v267 :: v268 :: v269 :: v270 :: v271 :: v272 :: v273 :: v274 :: v275 :: v276 :: v277 :: v278 :: v279 :: v280 :: v281 :: v282 :: []).toArray, []⟩ wz) :
    Code.wp Tryd.prog (Code.loop outer54) Q0 ⟨(v0 :: (.slice (some ⟨b, o, none⟩) n c : Value) :: v2 :: v3 :: (.pointer (some ⟨B, 0, none⟩) : Value) :: (.int .u32 x0 : Value) :: (.int .u32 x1 : Value) :: (.int .u32 x2 : Value) :: (.int .u32 x3 : Value) :: (.int .u32 x4 : Value) :: (.int .u32 x5 : Value) :: (.int .u32 x6 : Value) :: (.int .u32 x7 : Value) :: v13 :: v14 :: v15 :: v16 :: v17 :: v18 :: v19 :: v20 :: v21 :: v22 :: v23 :: v24 :: v25 :: v26 :: v27 :: v28 :: v29 :: v30 :: v31 :: v32 :: v33 :: v34 :: v35 :: v36 :: v37 :: v38 :: v39 :: v40 :: v41 :: v42 :: v43 :: v44 :: v45 :: v46 :: v47 :: v48 :: v49 :: v50 :: v51 :: v52 :: v53 :: v54 :: v55 :: v56 :: v57 :: v58 :: v59 :: v60 :: v61 :: v62 :: v63 :: v64 :: v65 :: v66 :: v67 :: v68 :: v69 :: v70 :: v71 :: v72 :: v73 :: v74 :: v75 :: v76 :: v77 :: v78 :: v79 :: v80 :: v81 :: v82 :: v83 :: v84 :: v85 :: v86 :: v87 :: v88 :: v89 :: v90 :: v91 :: v92 :: v93 :: v94 :: v95 :: v96 :: v97 :: v98 :: v99 :: v100 :: v101 :: v102 :: v103 :: v104 :: v105 :: v106 :: v107 :: v108 :: v109 :: v110 :: v111 :: v112 :: v113 :: v114 :: v115 :: v116 :: v117 :: v118 :: v119 :: v120 :: v121 :: v122 :: v123 :: v124 :: v125 :: v126 :: v127 :: v128 :: v129 :: v130 :: v131 :: v132 :: v133 :: v134 :: v135 :: v136 :: v137 :: v138 :: v139 :: v140 :: v141 :: v142 :: v143 :: v144 :: v145 :: v146 :: v147 :: v148 :: v149 :: v150 :: v151 :: v152 :: v153 :: v154 :: v155 :: v156 :: v157 :: v158 :: v159 :: v160 :: v161 :: v162 :: v163 :: v164 :: v165 :: v166 :: v167 :: v168 :: v169 :: v170 :: v171 :: v172 :: v173 :: v174 :: v175 :: v176 :: v177 :: v178 :: v179 :: v180 :: v181 :: v182 :: v183 :: v184 :: v185 :: v186 :: v187 :: v188 :: v189 :: v190 :: v191 :: v192 :: v193 :: v194 :: v195 :: v196 :: v197 :: v198 :: v199 :: v200 :: v201 :: v202 :: v203 :: v204 :: v205 :: v206 :: v207 :: v208 :: v209 :: v210 :: v211 :: v212 :: v213 :: v214 :: v215 :: v216 :: v217 :: v218 :: v219 :: v220 :: v221 :: v222 :: v223 :: v224 :: v225 :: v226 :: v227 :: v228 :: v229 :: v230 :: v231 :: v232 :: v233 :: v234 :: v235 :: v236 :: v237 :: v238 :: v239 :: v240 :: v241 :: v242 :: v243 :: v244 :: v245 :: v246 :: v247 :: v248 :: v249 :: v250 :: v251 :: v252 :: v253 :: v254 :: v255 :: v256 :: v257 :: v258 :: v259 :: v260 :: v261 :: v262 :: v263 :: v264 :: v265 :: v266 :: v267 :: v268 :: v269 :: v270 :: v271 :: v272 :: v273 :: v274 :: v275 :: v276 :: v277 :: v278 :: v279 :: v280 :: v281 :: v282 :: []).toArray, []⟩ wr := by
  conv => arg 2; arg 1; whnf
  have HX := Aside0.mk hx
  clear hx
  obtain ⟨wo, hwo⟩ : ∃ wo : World, wo = wr := ⟨_, rfl⟩
  subst hwo
  go_loopg [1, 5, 6, 7, 8, 9, 10, 11, 12] m (fun k v1 v5 v6 v7 v8 v9 v10 v11 v12 wi => ∃ (A : Option Addr) (L c' : Nat) (a0 a1 a2 a3 a4 a5 a6 a7 : Int), v1 = .slice A L c' ∧ v5 = .int .u32 a0 ∧ v6 = .int .u32 a1 ∧ v7 = .int .u32 a2 ∧ v8 = .int .u32 a3 ∧ v9 = .int .u32 a4 ∧ v10 = .int .u32 a5 ∧ v11 = .int .u32 a6 ∧ v12 = .int .u32 a7 ∧ Aside0 (L ≤ c' ∧ c' ≤ 9223372036854775807 ∧ L = 64 * k) ∧ Aside0 (∃ j, j + k = m ∧ (0 < k → A = some ⟨b, o + 64 * j, none⟩) ∧ ∃ us, chunks Kt q j (ws, [x0, x1, x2, x3, x4, x5, x6, x7]) = (us, [a0, a1, a2, a3, a4, a5, a6, a7]) ∧ Wd wi 43 B us) ∧ Aside0 (wo.grownBy wi (some B)))
  case atStart => exact ⟨_, n, c, x0, x1, x2, x3, x4, x5, x6, x7, rfl, rfl, rfl, rfl, rfl, rfl, rfl, rfl, rfl, Aside0.mk ⟨hnc, hc, hn⟩, Aside0.mk ⟨0, Nat.zero_add m, fun _ => rfl, ws, rfl, hU⟩, Aside0.mk (World.grownBy.refl _ _)⟩
  case round =>
    rename_i K_ hJ_ hK_
    obtain ⟨A, L, c', a0, a1, a2, a3, a4, a5, a6, a7, rfl, rfl, rfl, rfl, rfl, rfl, rfl, rfl, rfl, HL, HR, HG⟩ := hrel
    obtain ⟨hLc, hc', hLk⟩ := HL.out
    obtain ⟨j, hj, hA, us, hus, hwu⟩ := HR.out
    by_cases hk : 0 < gk
    · have hA := hA hk
      subst hA
      refine outer_round wr (P := 64 * j) (by omega) hc' hLc hwu (hK4.grown HG.out (fun e => h4B (Option.some.inj e))) h4B hbB (fun i hi => ?_) hq8 ?_
      · rw [Nat.add_assoc]
        exact HG.out.cell (hq (64 * j + i) (by omega)) (fun e => hbB (Option.some.inj e))
      intro t13 t14 t15 t16 t17 t18 t19 t20 t21 t22 t23 t24 t25 t26 t27 t28 t69 t70 t71 t72 t73 t74 t75 t76 t77 t78 t79 t80 t81 t82 t83 t84 t85 t86 t87 t88 t89 t90 t91 t92 t93 t94 t95 t96 t97 t98 t99 t100 t101 t102 t103 t104 t105 t106 t107 t108 t109 t110 t111 t112 t113 t114 t115 t116 t117 t118 t119 t120 t121 t122 t123 t124 t125 t126 t127 t128 t129 t130 t131 t132 t133 t134 t135 t136 t137 t138 t139 t140 t141 t142 t143 t144 t145 t146 t147 t148 t149 t150 t151 t152 t153 t154 t155 t156 t157 t158 t159 t160 t161 t162 t163 t164 t165 t166 t167 t168 t169 t170 t171 t172 t173 t174 t175 t176 t177 t178 t179 t180 t181 t182 t183 t184 t185 t186 t187 t188 t189 t190 t191 t192 t193 t194 t195 t196 t197 t198 t199 t200 t201 t202 t203 t204 t205 t206 t207 t208 t209 t210 t211 t212 t213 t214 t215 t216 t217 t218 t219 t220 t221 t222 t223 t224 t225 t226 t227 t228 t229 t230 t231 t232 t233 t234 t235 t236 t237 t238 t239 t240 t241 t242 z0 z1 z2 z3 z4 z5 z6 z7 us' A' C wz hs hwz hgz hA' hC
      refine hK_ _ _ (Handed.intro (gk - 1) (by omega) (hJ_ _ _ _ ?_))
      (repeat apply Exists.intro)
      refine ⟨⟨A', L - 64, C, _, _, _, _, _, _, _, _, rfl, rfl, rfl, rfl, rfl, rfl, rfl, rfl, rfl, Aside0.mk ⟨by omega, by omega, by omega⟩, Aside0.mk ⟨j + 1, by omega, fun h => ?_, us', ?_, hwz⟩, Aside0.mk (HG.out.trans hgz)⟩, rfl⟩
      · rw [hA' (by omega), show o + 64 * (j + 1) = o + 64 * j + 64 by omega]
      · show chunk Kt q (64 * j) (chunks Kt q j _) = _
        rw [hus]
        exact hs
    · obtain rfl : j = m := by omega
      refine outer_end wr (by omega) (fun t69 t70 t71 => ?_)
      exact HX.out _ _ _ _ _ _ _ _ _ _ _ _ _ _ _ _ _ _ _ _ _ _ _ _ _ _ _ _ _ _ _ _ _ _ _ _ _ _ _ _ _ _ _ _ _ _ _ _ _ _ _ _ _ _ _ _ _ _ _ _ _ _ _ _ _ _ _ _ _ _ _ _ _ _ _ _ _ _ _ _ _ _ _ _ _ _ _ _ _ _ _ _ _ _ _ _ _ _ _ _ _ _ _ _ _ _ _ _ _ _ _ _ _ _ _ _ _ _ _ _ _ _ _ _ _ _ _ _ _ _ _ _ _ _ _ _ _ _ _ _ _ _ _ _ _ _ _ _ _ _ _ _ _ _ _ _ _ _ _ _ _ _ _ _ _ _ _ _ _ _ _ _ _ _ _ _ _ _ _ _ _ _ _ _ _ _ _ _ _ _ _ _ _ _ _ _ _ _ _ us wr hus HG.out

set_option maxHeartbeats 16000000 in
set_option maxRecDepth 100000 in
theorem blk (D b o m n c : Nat) (hs xs q K : List Int) (nx len : Int) (w : World) (hD : Dg w D hs xs nx len) (hK : Wd w 43 4 K) (hn : n = 64 * m) (hc : n ≤ c) (hbl : b < w.heap.size) (hq8 : ∀ j, 0 ≤ q.getD j 0 ∧ q.getD j 0 ≤ 255) (hcm : c ≤ 9223372036854775807) (hq : ∀ j, j < n → w.cell? ⟨b, o + j, none⟩ = some (.int .u8 (q.getD j 0))) :
    Calls Tryd.prog 54 #[.pointer (some ⟨D, 0, none⟩), .slice (some ⟨b, o, none⟩) n c] w fun e w' => e = .returned (.tuple #[]) ∧ Dg w' D (blockF K q m hs) xs nx len ∧ w.grownBy w' (some D) := by
  obtain ⟨h0, h1, h2, h3, h4, h5, h6, h7, hhs⟩ := eight hs hD.h8
  subst hhs
  have HD := Aside0.mk hD
  have HK := Aside0.mk hK
  have HN := Aside0.mk hn
  have HQ := Aside0.mk hq
  have HQ8 := Aside0.mk hq8
  have HBL := Aside0.mk hbl
  have hu99 := Tryd.underlying99
  clear hD hK hn hq hq8 hbl
  go_enter Tryd.func54, Tryd.ntmps54
  go_wp2_with ((with_reducible refine gate_dst (N := 4) rfl ?_); refine alloc_known rfl 4 rfl 43 rfl _ zero43 ?_; intro B hB w1 hb hb1; have HB := Aside0.mk hb; have HBE := Aside0.mk hB; have HB1 := Aside0.mk hb1; clear hb hB hb1)
  have hD := HD.out.below HB1.out
  have c0 := hD.cell_h 0 (by omega)
  have c1 := hD.cell_h 1 (by omega)
  have c2 := hD.cell_h 2 (by omega)
  have c3 := hD.cell_h 3 (by omega)
  have c4 := hD.cell_h 4 (by omega)
  have c5 := hD.cell_h 5 (by omega)
  have c6 := hD.cell_h 6 (by omega)
  have c7 := hD.cell_h 7 (by omega)
  clear hD
  go_quiet (fail)
  clear c0 c1 c2 c3 c4 c5 c6 c7
  go_wp2
  have hK1 : Wd (w1.drewN nq) 43 4 K := ⟨HK.out.len, (HB1.out.block 4 (blk_lt HK.out.blk)).trans HK.out.blk⟩
  have hq1 : ∀ j, j < n → (w1.drewN nq).cell? ⟨b, o + j, none⟩ = some (.int .u8 (q.getD j 0)) := fun j hj => (grown_of_below HB1.out (some B)).trans (grown_drewN _ nq _) |>.cell (HQ.out j hj) (by intro e; have e : b = B := Option.some.inj e; have := HBL.out; have := HBE.out; omega)
  refine outer_loop (w1.drewN nq) HN.out hcm hc (⟨rfl, HB.out⟩ : Wd (w1.drewN nq) 43 B (noughts 64)) hK1 ?_ ?_ hq1 HQ8.out ?_
  · have := blk_lt HK.out.blk; have := HBE.out; omega
  · have := HBL.out; have := HBE.out; omega
  intro t1 t13 t14 t15 t16 t17 t18 t19 t20 t21 t22 t23 t24 t25 t26 t27 t28 t69 t70 t71 t72 t73 t74 t75 t76 t77 t78 t79 t80 t81 t82 t83 t84 t85 t86 t87 t88 t89 t90 t91 t92 t93 t94 t95 t96 t97 t98 t99 t100 t101 t102 t103 t104 t105 t106 t107 t108 t109 t110 t111 t112 t113 t114 t115 t116 t117 t118 t119 t120 t121 t122 t123 t124 t125 t126 t127 t128 t129 t130 t131 t132 t133 t134 t135 t136 t137 t138 t139 t140 t141 t142 t143 t144 t145 t146 t147 t148 t149 t150 t151 t152 t153 t154 t155 t156 t157 t158 t159 t160 t161 t162 t163 t164 t165 t166 t167 t168 t169 t170 t171 t172 t173 t174 t175 t176 t177 t178 t179 t180 t181 t182 t183 t184 t185 t186 t187 t188 t189 t190 t191 t192 t193 t194 t195 t196 t197 t198 t199 t200 t201 t202 t203 t204 t205 t206 t207 t208 t209 t210 t211 t212 t213 t214 t215 t216 t217 t218 t219 t220 t221 t222 t223 t224 t225 t226 t227 t228 t229 t230 t231 t232 t233 t234 t235 t236 t237 t238 t239 t240 t241 t242 z0 z1 z2 z3 z4 z5 z6 z7 ws wz hch hgz
  have hgw : w.grownBy wz (some B) := ((grown_of_below HB1.out _).trans (grown_drewN _ nq _)).trans hgz
  have HGW := Aside0.mk hgw
  have hD := HD.out.grown hgw (by intro e; have e : D = B := Option.some.inj e; have := blk_lt HD.out.blk; have := HBE.out; omega)
  have HCH := Aside0.mk hch
  have c0 := hD.cell_h 0 (by omega)
  have c1 := hD.cell_h 1 (by omega)
  have c2 := hD.cell_h 2 (by omega)
  have c3 := hD.cell_h 3 (by omega)
  have c4 := hD.cell_h 4 (by omega)
  have c5 := hD.cell_h 5 (by omega)
  have c6 := hD.cell_h 6 (by omega)
  have c7 := hD.cell_h 7 (by omega)
  have f0 := hD.free 0
  have f1 := hD.free 1
  have f2 := hD.free 2
  have f3 := hD.free 3
  have f4 := hD.free 4
  have f5 := hD.free 5
  have f6 := hD.free 6
  have f7 := hD.free 7
  have HDg := Aside0.mk hD
  clear hD hch hgz hgw hq1 hK1
  go_wp2
  go_region
  go_end0
  refine ⟨rfl, ?_, ?_⟩
  · have a7 := (((((((HDg.out.set_h 0 (by omega) z0).set_h 1 (by omega) z1).set_h 2 (by omega) z2).set_h 3 (by omega) z3).set_h 4 (by omega) z4).set_h 5 (by omega) z5).set_h 6 (by omega) z6).set_h 7 (by omega) z7
    rw [set8 _ HDg.out.h8] at a7
    have e8 : blockF K q m [h0, h1, h2, h3, h4, h5, h6, h7] = [z0, z1, z2, z3, z4, z5, z6, z7] := by rw [blockF, HCH.out]
    rw [e8]
    exact a7.drew
  · exact (((((((((grown_fresh HGW.out (Nat.le_of_eq HBE.out.symm) (some D)).trans (grown_put _ D _ _)).trans (grown_put _ D _ _)).trans (grown_put _ D _ _)).trans (grown_put _ D _ _)).trans (grown_put _ D _ _)).trans (grown_put _ D _ _)).trans (grown_put _ D _ _)).trans (grown_put _ D _ _)).trans (grown_drew _ _)

end Go.Proofs.YtodofpjdcongnaaDoor.Sign
