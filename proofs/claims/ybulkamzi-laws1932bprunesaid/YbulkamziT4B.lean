import Derived.Test.YbulkamziAftB
namespace Go.Proofs.Ybulkamzi
open Go.RowKit
set_option linter.unusedVariables false
set_option linter.unusedSimpArgs false

set_option maxHeartbeats 4000000 in
set_option maxRecDepth 100000 in
/-- From 'mask := ..' on: each place. -/
theorem from18 {w0 w5 w : World} {a : Option Addr} {L B k n f : Nat} {rb spot kn kd : Nat → Nat} {ct : Nat → Bool} {ln : Nat → Option Addr} {R5 : Nat → Option Nat} (A : Aft w0 w5 a L B k n f rb spot kn kd ct ln R5) (hb : Below w5.heap.size w5 w) (cap : Nat) {v0 v2 v3 v4 v8 v10 v11 v12 v13 v14 v15 v16 v17 v18 v19 v20 v21 v22 v23 v24 v25 v26 v27 v28 v29 v30 v31 v32 v33 v34 v35 v36 v37 v38 v39 v40 v41 v42 v43 v44 v45 v46 v47 v48 v49 v50 v51 v52 v53 v54 v55 v56 v57 v58 v59 v60 v61 v62 v63 v64 v65 v66 v67 v68 v69 v70 v71 v72 v73 v74 v75 v76 v77 v78 v79 v80 v81 v82 v83 v84 v85 v86 v87 v88 v89 v90 v91 v92 v93 v94 v95 v96 v97 v98 v99 v100 v101 v102 v103 v104 v105 v106 v107 v108 v109 v110 v111 v112 v113 v114 v115 v116 v117 v118 v119 v120 v121 v122 v123 v124 v125 v126 v127 v128 v129 v130 v131 v132 v133 v134 v135 v136 v137 v138 v139 v140 v141 v142 v143 v144 v145 v146 v147 v148 v149 v150 v151 v152 v153 v154 v155 v156 v157 v158 v159 v160 v161 v162 v163 v164 v165 v166 v167 v168 v169 v170 v171 v172 v173 v174 v175 v176 v177 v178 v179 v180 v181 v182 v183 v184 v185 v186 v187 v188 v189 v190 v191 v192 v193 v194 v195 v196 v197 v198 v199 v200 v201 v202 v203 v204 v205 v206 v207 v208 v209 v210 v211 v212 v213 v214 v215 v216 v217 v218 v219 v220 v221 v222 v223 v224 v225 v226 v227 v228 v229 v230 v231 v232 v233 v234 v235 v236 v237 v238 v239 v240 v241 v242 v243 v244 v245 v246 v247 v248 v249 v250 v251 v252 v253 v254 v255 v256 v257 v258 v259 v260 v261 v262 v263 v264 v265 v266 v267 v268 v269 v270 v271 v272 v273 v274 v275 v276 v277 v278 v279 v280 v281 v282 v283 v284 v285 v286 v287 v288 v289 v290 v291 v292 v293 v294 v295 v296 v297 v298 v299 : Value} :
    Code.wp Yba.prog (rtn 18 body4) (Post4 w0) ⟨#[v0, .slice a L cap, v2, v3, v4, .int .i64 (n : Nat), .int .i64 (k : Nat), .pointer (some ⟨B + 1, 0, none⟩), v8, .slice (some ⟨B + 3, 0, none⟩) k k, v10, v11, v12, v13, v14, v15, v16, v17, v18, v19, v20, v21, v22, v23, v24, v25, v26, v27, v28, v29, v30, v31, v32, v33, v34, v35, v36, v37, v38, v39, v40, v41, v42, v43, v44, v45, v46, v47, v48, v49, v50, v51, v52, v53, v54, v55, v56, v57, v58, v59, v60, v61, v62, v63, v64, v65, v66, v67, v68, v69, v70, v71, v72, v73, v74, v75, v76, v77, v78, v79, v80, v81, v82, v83, v84, v85, v86, v87, v88, v89, v90, v91, v92, v93, v94, v95, v96, v97, v98, v99, v100, v101, v102, v103, v104, v105, v106, v107, v108, v109, v110, v111, v112, v113, v114, v115, v116, v117, v118, v119, v120, v121, v122, v123, v124, v125, v126, v127, v128, v129, v130, v131, v132, v133, v134, v135, v136, v137, v138, v139, v140, v141, v142, v143, v144, v145, v146, v147, v148, v149, v150, v151, v152, v153, v154, v155, v156, v157, v158, v159, v160, v161, v162, v163, v164, v165, v166, v167, v168, v169, v170, v171, v172, v173, v174, v175, v176, v177, v178, v179, v180, v181, v182, v183, v184, v185, v186, v187, v188, v189, v190, v191, v192, v193, v194, v195, v196, v197, v198, v199, v200, v201, v202, v203, v204, v205, v206, v207, v208, v209, v210, v211, v212, v213, v214, v215, v216, v217, v218, v219, v220, v221, v222, v223, v224, v225, v226, v227, v228, v229, v230, v231, v232, v233, v234, v235, v236, v237, v238, v239, v240, v241, v242, v243, v244, v245, v246, v247, v248, v249, v250, v251, v252, v253, v254, v255, v256, v257, v258, v259, v260, v261, v262, v263, v264, v265, v266, v267, v268, v269, v270, v271, v272, v273, v274, v275, v276, v277, v278, v279, v280, v281, v282, v283, v284, v285, v286, v287, v288, v289, v290, v291, v292, v293, v294, v295, v296, v297, v298, v299], []⟩ w := by
  show Code.wp Yba.prog (Code.seq (Code.region 68 _ _) _) (bodyPost Yba.prog Yba.f4 fun e w' => e = .returned (.bool true) ∧ Below w0.heap.size w0 w') _ _
  have HA := hidB A
  have HN := hidB A.hn
  have HBW := hidB hb
  have TB := hidB (A.tab hb)
  have hn64 := A.hn.le
  have hn2 := A.hn.pos
  have hL := A.hL
  have hk32 := A.hk32
  have hkL := A.hkL
  have hf := A.hf
  clear A hb
  go_wp2
  go_loopw [27] (fun v wr => ∃ j : Nat, j ≤ n ∧ v = .int .i64 j ∧ wr = w) (fun v _ => n - (intOf v).toNat)
  case atStart => exact ⟨0, by omega, rfl, rfl⟩
  case round =>
    obtain ⟨j, hj, rfl, rfl⟩ := hrel
    by_cases hjn : j < n
    · have HJ := hidB hjn
      cases hR : R5 j with
      | none =>
        have A1 := hidB (at_none (B + 1) B n j rb spot R5 HN.out hjn wr TB.out hR)
        have S0 := spotAt_n (B + 1) B n j rb spot R5 HN.out hjn wr TB.out
        rw [hR] at S0
        have S1 := hidB S0
        clear S0 hR
        go_wp2_with (first | (go_at_call 18; refine A1.out.mono ?_; rintro e w6 ⟨rfl, rfl⟩) | (go_at_call 19; refine S1.out.mono ?_; rintro e w6 ⟨rfl, rfl⟩))
        go_roundw
        case rel => exact ⟨j + 1, HJ.out, by go_num, trivial⟩
        case measure => have := HJ.out; simp [intOf]; omega
      | some i =>
        have hik : i < k := HA.out.done.mem j i hjn hR
        have A1 := hidB (at_some (B + 1) B n j i rb spot R5 HN.out hjn wr TB.out hR)
        have S1 := hidB (spotAt_some (B + 1) B n j i rb spot R5 HN.out hjn wr TB.out hR)
        obtain ⟨a0, t, hat, htn, htj, hst, hway⟩ := way hf HA.out.done.good hjn hR
        have hspi := HA.out.hsp i
        have AND0 : bits .and .u64 ((spot i : Nat) : Int) ((n : Int) - 1) = (P n f a0 : Int) := by rw [HN.out.and _ (by omega), hst]
        have ENT := hidB (HA.out.entry HBW.out i hik)
        obtain ⟨sp, esp⟩ : ∃ y : Nat, y = spot i := ⟨_, rfl⟩
        obtain ⟨p0, ep0⟩ : ∃ y : Nat, y = P n f a0 := ⟨_, rfl⟩
        have hp0 : p0 < n := by rw [ep0]; exact P_lt hf
        rw [← esp] at S1 AND0 ENT hspi
        rw [← ep0] at AND0
        have HP0 := hidB ep0
        have HTJ := hidB htj
        have HWAY := hidB hway
        clear esp ep0 htj hway hst hR
        go_wp2_with (first | (go_at_call 18; refine A1.out.mono ?_; rintro e w6 ⟨rfl, rfl⟩) | (go_at_call 19; refine S1.out.mono ?_; rintro e w6 ⟨rfl, rfl⟩))
        clear A1 S1
        go_loopw [30, 31] (fun fv kv wr => ∃ q : Nat, q ≤ i ∧ fv = .bool false ∧ kv = .int .i64 q ∧ wr = w6) (fun _ kv _ => i - (intOf kv).toNat)
        case atStart => exact ⟨0, by omega, rfl, rfl, rfl⟩
        case round =>
          obtain ⟨q, hq, rfl, rfl, rfl⟩ := hrel
          by_cases hqi : q = i
          · subst hqi
            obtain ⟨b, off, rfl, p1, _, _⟩ := ENT.out
            have pr := HA.out.res HBW.out q hik
            have eq := HA.out.eql HBW.out q q hik hik
            rw [decide_eq_true rfl] at eq
            clear ENT
            go_wp2
            go_loopw [32, 33] (fun pv sv ws => ∃ s : Nat, a0 + s ≤ t ∧ pv = .int .u64 (P n f (a0 + s) : Nat) ∧ sv = .int .i64 s ∧ ws = wr) (fun _ sv _ => n - (intOf sv).toNat)
            case atStart => exact ⟨0, hat, by rw [HP0.out]; rfl, rfl, rfl⟩
            case round =>
              obtain ⟨s, hs, rfl, rfl, rfl⟩ := hrel
              have hpn : P n f (a0 + s) < n := P_lt hf
              have NX := HN.out.next f (a0 + s) hf
              by_cases hst : a0 + s < t
              · have hne : P n f (a0 + s) ≠ j := fun e => by
                  have := P_inj hf (show a0 + s < n by omega) htn (e.trans HTJ.out.symm)
                  omega
                have hR2 := HWAY.out (a0 + s) (by omega) hst
                obtain ⟨i2, hi2⟩ : ∃ i2, R5 (P n f (a0 + s)) = some i2 := by
                  cases h : R5 (P n f (a0 + s)) with
                  | none => exact absurd h hR2
                  | some i2 => exact ⟨i2, rfl⟩
                have A2 := hidB (at_some (B + 1) B n (P n f (a0 + s)) i2 rb spot R5 HN.out hpn wr TB.out hi2)
                obtain ⟨pp, epp⟩ : ∃ y : Nat, y = P n f (a0 + s) := ⟨_, rfl⟩
                obtain ⟨pq, epq⟩ : ∃ y : Nat, y = P n f (a0 + s + 1) := ⟨_, rfl⟩
                rw [← epp] at NX A2 hne hpn ⊢
                rw [← epq] at NX
                have hb1 : ((pp : Int) == (j : Int)) = false := by simp; omega
                have HPQ := hidB epq
                have HST := hidB hst
                have hsn : s < n := by omega
                clear epp epq hi2 hR2 hst
                go_wp2_with (go_at_call 18; refine A2.out.mono ?_; rintro e w6 ⟨rfl, rfl⟩)
                go_roundw
                case rel => exact ⟨s + 1, HST.out, by rw [HPQ.out]; rfl, by go_num, trivial⟩
                case measure => simp [intOf]; omega
              · have hst2 : a0 + s = t := by omega
                have hpj : P n f (a0 + s) = j := by rw [hst2]; exact HTJ.out
                rw [hpj]
                clear hpj NX hpn
                go_wp2
                go_roundw
                case rel => exact ⟨j + 1, HJ.out, by go_num, trivial⟩
                case measure => have := HJ.out; simp [intOf]; omega
          · have eq := HA.out.eql HBW.out q i (by omega) hik
            rw [decide_eq_false hqi] at eq
            have pr := HA.out.res HBW.out q (by omega)
            have hqi2 : q < i := by omega
            clear hqi ENT
            go_wp2
            go_roundw
            case rel => exact ⟨q + 1, by omega, rfl, by go_num, trivial⟩
            case measure => simp [intOf]; omega
    · have hjn2 : n = j := by omega
      subst hjn2
      go_wp2
      go_ret
      exact ⟨rfl, HA.out.end HBW.out⟩
end Go.Proofs.Ybulkamzi
