import Derived.Test.YbulkamziT3B
namespace Go.Proofs.Ybulkamzi
open Go.RowKit
set_option linter.unusedVariables false
set_option linter.unusedSimpArgs false

set_option maxHeartbeats 4000000 in
set_option maxRecDepth 100000 in
/-- From 'if got != wantLive' on. -/
theorem from12 {w0 w5 w : World} {a : Option Addr} {L B k n f : Nat} {rb spot kn kd : Nat → Nat} {ct : Nat → Bool} {ln : Nat → Option Addr} {R5 : Nat → Option Nat} (A : Aft w0 w5 a L B k n f rb spot kn kd ct ln R5) (hb : Below w5.heap.size w5 w) (cap G U V : Nat) (hU : U = cntB (fun i => ct i && kd i != 3) k) (hV : V = cntB (fun i => kd i == 0) k) {v0 v2 v3 v4 v10 v11 v12 v17 v18 v19 v20 v21 v22 v23 v24 v25 v26 v27 v28 v29 v30 v31 v32 v33 v34 v35 v36 v37 v38 v39 v40 v41 v42 v43 v44 v45 v46 v47 v48 v49 v50 v51 v52 v53 v54 v55 v56 v57 v58 v59 v60 v61 v62 v63 v64 v65 v66 v67 v68 v69 v70 v71 v72 v73 v74 v75 v76 v77 v78 v79 v80 v81 v82 v83 v84 v85 v86 v87 v88 v89 v90 v91 v92 v93 v94 v95 v96 v97 v98 v99 v100 v101 v102 v103 v104 v105 v106 v107 v108 v109 v110 v111 v112 v113 v114 v115 v116 v117 v118 v119 v120 v121 v122 v123 v124 v125 v126 v127 v128 v129 v130 v131 v132 v133 v134 v135 v136 v137 v138 v139 v140 v141 v142 v143 v144 v145 v146 v147 v148 v149 v150 v151 v152 v153 v154 v155 v156 v157 v158 v159 v160 v161 v162 v163 v164 v165 v166 v167 v168 v169 v170 v171 v172 v173 v174 v175 v176 v177 v178 v179 v180 v181 v182 v183 v184 v185 v186 v187 v188 v189 v190 v191 v192 v193 v194 v195 v196 v197 v198 v199 v200 v201 v202 v203 v204 v205 v206 v207 v208 v209 v210 v211 v212 v213 v214 v215 v216 v217 v218 v219 v220 v221 v222 v223 v224 v225 v226 v227 v228 v229 v230 v231 v232 v233 v234 v235 v236 v237 v238 v239 v240 v241 v242 v243 v244 v245 v246 v247 v248 v249 v250 v251 v252 v253 v254 v255 v256 v257 v258 v259 v260 v261 v262 v263 v264 v265 v266 v267 v268 v269 v270 v271 v272 v273 v274 v275 v276 v277 v278 v279 v280 v281 v282 v283 v284 v285 v286 v287 v288 v289 v290 v291 v292 v293 v294 v295 v296 v297 v298 v299 : Value} :
    Code.wp Yba.prog (rtn 12 body4) (Post4 w0) ⟨#[v0, .slice a L cap, v2, v3, v4, .int .i64 (n : Nat), .int .i64 (k : Nat), .pointer (some ⟨B + 1, 0, none⟩), .pointer (some ⟨B + 2, 0, none⟩), .slice (some ⟨B + 3, 0, none⟩) k k, v10, v11, v12, .int .i64 (G : Nat), .int .i64 (G : Nat), .int .i64 (U : Nat), .int .i64 (V : Nat), v17, v18, v19, v20, v21, v22, v23, v24, v25, v26, v27, v28, v29, v30, v31, v32, v33, v34, v35, v36, v37, v38, v39, v40, v41, v42, v43, v44, v45, v46, v47, v48, v49, v50, v51, v52, v53, v54, v55, v56, v57, v58, v59, v60, v61, v62, v63, v64, v65, v66, v67, v68, v69, v70, v71, v72, v73, v74, v75, v76, v77, v78, v79, v80, v81, v82, v83, v84, v85, v86, v87, v88, v89, v90, v91, v92, v93, v94, v95, v96, v97, v98, v99, v100, v101, v102, v103, v104, v105, v106, v107, v108, v109, v110, v111, v112, v113, v114, v115, v116, v117, v118, v119, v120, v121, v122, v123, v124, v125, v126, v127, v128, v129, v130, v131, v132, v133, v134, v135, v136, v137, v138, v139, v140, v141, v142, v143, v144, v145, v146, v147, v148, v149, v150, v151, v152, v153, v154, v155, v156, v157, v158, v159, v160, v161, v162, v163, v164, v165, v166, v167, v168, v169, v170, v171, v172, v173, v174, v175, v176, v177, v178, v179, v180, v181, v182, v183, v184, v185, v186, v187, v188, v189, v190, v191, v192, v193, v194, v195, v196, v197, v198, v199, v200, v201, v202, v203, v204, v205, v206, v207, v208, v209, v210, v211, v212, v213, v214, v215, v216, v217, v218, v219, v220, v221, v222, v223, v224, v225, v226, v227, v228, v229, v230, v231, v232, v233, v234, v235, v236, v237, v238, v239, v240, v241, v242, v243, v244, v245, v246, v247, v248, v249, v250, v251, v252, v253, v254, v255, v256, v257, v258, v259, v260, v261, v262, v263, v264, v265, v266, v267, v268, v269, v270, v271, v272, v273, v274, v275, v276, v277, v278, v279, v280, v281, v282, v283, v284, v285, v286, v287, v288, v289, v290, v291, v292, v293, v294, v295, v296, v297, v298, v299], []⟩ w := by
  show Code.wp Yba.prog (Code.seq (Code.seq (Code.region 53 _ _) _) _) (bodyPost Yba.prog Yba.f4 fun e w' => e = .returned (.bool true) ∧ Below w0.heap.size w0 w') _ _
  have HA := hidB A
  have HBW := hidB hb
  have hk32 := A.hk32
  have hV32 : V ≤ k := by rw [hV]; exact cntB_le _ _
  have hU32 : U ≤ k := by rw [hU]; exact cntB_le _ _
  obtain ⟨tg, sh1, sh2⟩ := A.done.sh
  rw [← hV] at sh1
  rw [← hU] at sh1
  obtain ⟨s0, s40, s41, s73⟩ := sh1.cells
  have q40 := (hb.cell (p := ⟨B + 2, 40, none⟩) (block_lt_of_cell s40)).trans s40
  have q41 := (hb.cell (p := ⟨B + 2, 41, none⟩) (block_lt_of_cell s41)).trans s41
  have q73 := (hb.cell (p := ⟨B + 2, 73, none⟩) (block_lt_of_cell s73)).trans s73
  obtain ⟨H, eH⟩ : ∃ y : Nat, y = min V 31 := ⟨_, rfl⟩
  obtain ⟨X, eX⟩ : ∃ y : Nat, y = V % 31 := ⟨_, rfl⟩
  rw [← eH] at q41
  rw [← eX] at q40
  have eX' : (V : Int) % 31 = (X : Int) := by omega
  have eX2 : (V : Int).tmod 31 = (X : Int) := by rw [Int.tmod_eq_emod_of_nonneg (by omega)]; omega
  have hH : H ≤ 31 := by omega
  have hX : X ≤ 31 := by omega
  have HH2 := hidB eH
  have HV := hidB hV
  have LD := hidB (i64_load (B + 2) 73 _ w q73)
  clear eH eX s0 s40 s41 s73 sh1 sh2 q73 hU hV A hb
  go_upto_if 186 with (go_at_call 15; refine LD.out.mono ?_; rintro e w9 ⟨rfl, rfl⟩)
  clear LD
  go_cut [24] (fun v wc => v = .int .i64 (H : Nat) ∧ wc = w9)
  case first =>
    by_cases hv : 31 < V
    · go_wp2
      go_meet
      case rel => exact ⟨by rw [HH2.out, Nat.min_eq_right (by omega)]; rfl, rfl⟩
    · go_wp2
      go_meet
      case rel => exact ⟨by rw [HH2.out, Nat.min_eq_left (by omega)], rfl⟩
  case rest =>
    obtain ⟨rfl, rfl⟩ := hcut
    go_upto_if 205 with fail
    go_cut [24] (fun v wd => wd = wc)
    case first =>
      go_wp2
      go_meet
      case rel => rfl
    case rest =>
      rename_i hK
      refine hK _ _ ?_
      rw [hcut]
      exact from17 HA.out HBW.out cap V HV.out
end Go.Proofs.Ybulkamzi
