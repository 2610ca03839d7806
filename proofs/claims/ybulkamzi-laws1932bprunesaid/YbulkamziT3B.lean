import Derived.Test.YbulkamziT4B
namespace Go.Proofs.Ybulkamzi
open Go.RowKit
set_option linter.unusedVariables false
set_option linter.unusedSimpArgs false

set_option maxHeartbeats 4000000 in
set_option maxRecDepth 100000 in
/-- From 'if removed <= ghostRoom' on. -/
theorem from17 {w0 w5 w : World} {a : Option Addr} {L B k n f : Nat} {rb spot kn kd : Nat → Nat} {ct : Nat → Bool} {ln : Nat → Option Addr} {R5 : Nat → Option Nat} (A : Aft w0 w5 a L B k n f rb spot kn kd ct ln R5) (hb : Below w5.heap.size w5 w) (cap V : Nat) (hV : V = cntB (fun i => kd i == 0) k) {v0 v2 v3 v4 v10 v11 v12 v13 v14 v15 v17 v18 v19 v20 v21 v22 v23 v24 v25 v26 v27 v28 v29 v30 v31 v32 v33 v34 v35 v36 v37 v38 v39 v40 v41 v42 v43 v44 v45 v46 v47 v48 v49 v50 v51 v52 v53 v54 v55 v56 v57 v58 v59 v60 v61 v62 v63 v64 v65 v66 v67 v68 v69 v70 v71 v72 v73 v74 v75 v76 v77 v78 v79 v80 v81 v82 v83 v84 v85 v86 v87 v88 v89 v90 v91 v92 v93 v94 v95 v96 v97 v98 v99 v100 v101 v102 v103 v104 v105 v106 v107 v108 v109 v110 v111 v112 v113 v114 v115 v116 v117 v118 v119 v120 v121 v122 v123 v124 v125 v126 v127 v128 v129 v130 v131 v132 v133 v134 v135 v136 v137 v138 v139 v140 v141 v142 v143 v144 v145 v146 v147 v148 v149 v150 v151 v152 v153 v154 v155 v156 v157 v158 v159 v160 v161 v162 v163 v164 v165 v166 v167 v168 v169 v170 v171 v172 v173 v174 v175 v176 v177 v178 v179 v180 v181 v182 v183 v184 v185 v186 v187 v188 v189 v190 v191 v192 v193 v194 v195 v196 v197 v198 v199 v200 v201 v202 v203 v204 v205 v206 v207 v208 v209 v210 v211 v212 v213 v214 v215 v216 v217 v218 v219 v220 v221 v222 v223 v224 v225 v226 v227 v228 v229 v230 v231 v232 v233 v234 v235 v236 v237 v238 v239 v240 v241 v242 v243 v244 v245 v246 v247 v248 v249 v250 v251 v252 v253 v254 v255 v256 v257 v258 v259 v260 v261 v262 v263 v264 v265 v266 v267 v268 v269 v270 v271 v272 v273 v274 v275 v276 v277 v278 v279 v280 v281 v282 v283 v284 v285 v286 v287 v288 v289 v290 v291 v292 v293 v294 v295 v296 v297 v298 v299 : Value} :
    Code.wp Yba.prog (rtn 17 body4) (Post4 w0) ⟨#[v0, .slice a L cap, v2, v3, v4, .int .i64 (n : Nat), .int .i64 (k : Nat), .pointer (some ⟨B + 1, 0, none⟩), .pointer (some ⟨B + 2, 0, none⟩), .slice (some ⟨B + 3, 0, none⟩) k k, v10, v11, v12, v13, v14, v15, .int .i64 (V : Nat), v17, v18, v19, v20, v21, v22, v23, v24, v25, v26, v27, v28, v29, v30, v31, v32, v33, v34, v35, v36, v37, v38, v39, v40, v41, v42, v43, v44, v45, v46, v47, v48, v49, v50, v51, v52, v53, v54, v55, v56, v57, v58, v59, v60, v61, v62, v63, v64, v65, v66, v67, v68, v69, v70, v71, v72, v73, v74, v75, v76, v77, v78, v79, v80, v81, v82, v83, v84, v85, v86, v87, v88, v89, v90, v91, v92, v93, v94, v95, v96, v97, v98, v99, v100, v101, v102, v103, v104, v105, v106, v107, v108, v109, v110, v111, v112, v113, v114, v115, v116, v117, v118, v119, v120, v121, v122, v123, v124, v125, v126, v127, v128, v129, v130, v131, v132, v133, v134, v135, v136, v137, v138, v139, v140, v141, v142, v143, v144, v145, v146, v147, v148, v149, v150, v151, v152, v153, v154, v155, v156, v157, v158, v159, v160, v161, v162, v163, v164, v165, v166, v167, v168, v169, v170, v171, v172, v173, v174, v175, v176, v177, v178, v179, v180, v181, v182, v183, v184, v185, v186, v187, v188, v189, v190, v191, v192, v193, v194, v195, v196, v197, v198, v199, v200, v201, v202, v203, v204, v205, v206, v207, v208, v209, v210, v211, v212, v213, v214, v215, v216, v217, v218, v219, v220, v221, v222, v223, v224, v225, v226, v227, v228, v229, v230, v231, v232, v233, v234, v235, v236, v237, v238, v239, v240, v241, v242, v243, v244, v245, v246, v247, v248, v249, v250, v251, v252, v253, v254, v255, v256, v257, v258, v259, v260, v261, v262, v263, v264, v265, v266, v267, v268, v269, v270, v271, v272, v273, v274, v275, v276, v277, v278, v279, v280, v281, v282, v283, v284, v285, v286, v287, v288, v289, v290, v291, v292, v293, v294, v295, v296, v297, v298, v299], []⟩ w := by
  show Code.wp Yba.prog (Code.seq (Code.seq (Code.region 62 _ _) _) _) (bodyPost Yba.prog Yba.f4 fun e w' => e = .returned (.bool true) ∧ Below w0.heap.size w0 w') _ _
  have HA := hidB A
  have HBW := hidB hb
  have hL := A.hL
  have hk32 := A.hk32
  have hkL := A.hkL
  have hV32 : V ≤ k := by rw [hV]; exact cntB_le _ _
  obtain ⟨tg, sh1, sh2⟩ := A.done.sh
  rw [← hV] at sh1 sh2
  obtain ⟨s0, s40, s41, s73⟩ := sh1.cells
  have SH0 := hidB s0
  have SH41 := hidB s41
  have SH2 := hidB sh2
  clear A hb hV sh1 sh2 s0 s40 s41 s73
  go_upto_if 207 with fail
  go_cut [25] (fun _ wc => Below w5.heap.size w5 wc)
  case first =>
    by_cases hv : V ≤ 31
    · go_wp2
      go_loopw [25] (fun v wr => ∃ i : Nat, i ≤ k ∧ v = .int .i64 i ∧ Below w5.heap.size w5 wr) (fun v _ => k - (intOf v).toNat)
      case atStart => exact ⟨0, by omega, rfl, HBW.out⟩
      case round =>
        obtain ⟨i, hi, rfl, hbi⟩ := hrel
        by_cases hik : i < k
        · obtain ⟨b, off, rfl, p0, p1, p2⟩ := HA.out.entry hbi i hik
          clear p2
          obtain ⟨kq, ekq⟩ : ∃ y : Nat, y = kn i := ⟨_, rfl⟩
          obtain ⟨kr, ekr⟩ : ∃ y : Nat, y = kd i := ⟨_, rfl⟩
          have e4 : (kq : Int) % 4 = (kr : Int) := by have := HA.out.hkd i; omega
          have e4' : (kq : Int).tmod 4 = (kr : Int) := by rw [Int.tmod_eq_emod_of_nonneg (by omega)]; omega
          have hkq : kq < 256 := by rw [ekq]; exact HA.out.hkn i
          have hspi := HA.out.hsp i
          have hi' : (i : Int) < (L : Int) := by omega
          rw [← ekq] at p1
          clear ekq
          have HBI := hidB hbi
          have HIK := hidB hik
          have T17 : Hid (∀ q, Calls Yba.prog 17 #[.int .u32 (spot i : Nat)] (wr.drewN q) fun e w' => e = .returned (.int .u16 (tagN (spot i) : Nat)) ∧ w' = wr.drewN q) := fun q => tagOf_walk (spot i) hspi (wr.drewN q)
          by_cases h0 : kr = 0
          · obtain ⟨i0, hi0, htg⟩ := SH2.out hv i hik (by omega)
            have hl41 : B + 2 < w5.heap.size := block_lt_of_cell SH41.out
            have T16 : Hid (∀ q, Calls Yba.prog 16 #[.pointer (some ⟨B + 2, 9, none⟩), .int .u16 (tagN (spot i) : Nat)] (wr.drewN q) fun e w' => e = .returned (.bool true) ∧ ∃ m, w' = (wr.drewN q).drewN m) := fun q =>
              (hasTag_walk (B + 2) (min V 31) (tagN (spot i)) tg (by omega) (wr.drewN q) (fun q hq => (hbi.cell (p := ⟨B + 2, 9 + q, none⟩) hl41).trans (SH0.out q (by omega))) ((hbi.cell (p := ⟨B + 2, 41, none⟩) hl41).trans SH41.out) i0 (by omega) htg).mono fun e w' ⟨h1, h2⟩ => ⟨h1, 1, h2⟩
            obtain ⟨ty, ety⟩ : ∃ y : Nat, y = tagN (spot i) := ⟨_, rfl⟩
            obtain ⟨sp, esp⟩ : ∃ y : Nat, y = spot i := ⟨_, rfl⟩
            rw [← ety] at T17 T16
            rw [← esp] at T17 p0 hspi
            subst h0
            clear ety esp htg hi0 hl41 ekr hbi
            go_wp2_with fail
            go_quiet (first | (go_at_call 17; refine Calls.quiet_of_same (T17.out _)) | (go_at_call 16; refine Calls.quiet_of (T16.out _)))
            go_wp2
            go_roundw
            case rel => exact ⟨i + 1, HIK.out, by go_num, below_drewB HBI.out _⟩
            case measure => have := HIK.out; simp [intOf]; omega
          · have kb : ((kr : Int) == 0) = false := by simp; omega
            clear ekr hbi T17
            go_wp2_with fail
            go_quiet (fail)
            go_wp2
            go_roundw
            case rel => exact ⟨i + 1, HIK.out, by go_num, below_drewB HBI.out _⟩
            case measure => have := HIK.out; simp [intOf]; omega
        · have hik2 : k = i := by omega
          subst hik2
          go_wp2
          go_meet
          case rel => exact hbi
    · go_wp2
      go_meet
      case rel => exact HBW.out
  case rest =>
    rename_i hK
    refine hK _ _ ?_
    exact from18 HA.out hcut cap
end Go.Proofs.Ybulkamzi
