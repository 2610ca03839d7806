import Derived.Test.YbulkamziT2bB
namespace Go.Proofs.Ybulkamzi
open Go.RowKit
set_option linter.unusedVariables false
set_option linter.unusedSimpArgs false

set_option maxHeartbeats 4000000 in
set_option maxRecDepth 100000 in
/-- From 'got := sh.prune(t)' on. -/
theorem from9 {w0 w : World} {a : Option Addr} {L B k n : Nat} {rb spot kn kd : Nat → Nat} {ct : Nat → Bool} {ln : Nat → Option Addr} {R : Nat → Option Nat} (he : Entries w0 a L spot kn ct) (hB : B = w0.heap.size) (hkL : k ≤ L) (hk32 : k ≤ 32) (hL : L ≤ 1024)
    (hsp : ∀ k, spot k < 4294967296) (hkn : ∀ k, kn k < 256) (hkd : ∀ k, kd k = kn k % 4) (hn : Pow n) (hfr : 2 * k ≤ n) (hst : LSt w0 w B k n k rb spot kd ct ln R) (cap : Nat) {v0 v2 v3 v4 v10 v11 v12 v13 v14 v15 v16 v17 v18 v19 v20 v21 v22 v23 v24 v25 v26 v27 v28 v29 v30 v31 v32 v33 v34 v35 v36 v37 v38 v39 v40 v41 v42 v43 v44 v45 v46 v47 v48 v49 v50 v51 v52 v53 v54 v55 v56 v57 v58 v59 v60 v61 v62 v63 v64 v65 v66 v67 v68 v69 v70 v71 v72 v73 v74 v75 v76 v77 v78 v79 v80 v81 v82 v83 v84 v85 v86 v87 v88 v89 v90 v91 v92 v93 v94 v95 v96 v97 v98 v99 v100 v101 v102 v103 v104 v105 v106 v107 v108 v109 v110 v111 v112 v113 v114 v115 v116 v117 v118 v119 v120 v121 v122 v123 v124 v125 v126 v127 v128 v129 v130 v131 v132 v133 v134 v135 v136 v137 v138 v139 v140 v141 v142 v143 v144 v145 v146 v147 v148 v149 v150 v151 v152 v153 v154 v155 v156 v157 v158 v159 v160 v161 v162 v163 v164 v165 v166 v167 v168 v169 v170 v171 v172 v173 v174 v175 v176 v177 v178 v179 v180 v181 v182 v183 v184 v185 v186 v187 v188 v189 v190 v191 v192 v193 v194 v195 v196 v197 v198 v199 v200 v201 v202 v203 v204 v205 v206 v207 v208 v209 v210 v211 v212 v213 v214 v215 v216 v217 v218 v219 v220 v221 v222 v223 v224 v225 v226 v227 v228 v229 v230 v231 v232 v233 v234 v235 v236 v237 v238 v239 v240 v241 v242 v243 v244 v245 v246 v247 v248 v249 v250 v251 v252 v253 v254 v255 v256 v257 v258 v259 v260 v261 v262 v263 v264 v265 v266 v267 v268 v269 v270 v271 v272 v273 v274 v275 v276 v277 v278 v279 v280 v281 v282 v283 v284 v285 v286 v287 v288 v289 v290 v291 v292 v293 v294 v295 v296 v297 v298 v299 : Value} :
    Code.wp Yba.prog (rtn 9 body4) (Post4 w0) ⟨#[v0, .slice a L cap, v2, v3, v4, .int .i64 (n : Nat), .int .i64 (k : Nat), .pointer (some ⟨B + 1, 0, none⟩), .pointer (some ⟨B + 2, 0, none⟩), .slice (some ⟨B + 3, 0, none⟩) k k, v10, v11, v12, v13, v14, v15, v16, v17, v18, v19, v20, v21, v22, v23, v24, v25, v26, v27, v28, v29, v30, v31, v32, v33, v34, v35, v36, v37, v38, v39, v40, v41, v42, v43, v44, v45, v46, v47, v48, v49, v50, v51, v52, v53, v54, v55, v56, v57, v58, v59, v60, v61, v62, v63, v64, v65, v66, v67, v68, v69, v70, v71, v72, v73, v74, v75, v76, v77, v78, v79, v80, v81, v82, v83, v84, v85, v86, v87, v88, v89, v90, v91, v92, v93, v94, v95, v96, v97, v98, v99, v100, v101, v102, v103, v104, v105, v106, v107, v108, v109, v110, v111, v112, v113, v114, v115, v116, v117, v118, v119, v120, v121, v122, v123, v124, v125, v126, v127, v128, v129, v130, v131, v132, v133, v134, v135, v136, v137, v138, v139, v140, v141, v142, v143, v144, v145, v146, v147, v148, v149, v150, v151, v152, v153, v154, v155, v156, v157, v158, v159, v160, v161, v162, v163, v164, v165, v166, v167, v168, v169, v170, v171, v172, v173, v174, v175, v176, v177, v178, v179, v180, v181, v182, v183, v184, v185, v186, v187, v188, v189, v190, v191, v192, v193, v194, v195, v196, v197, v198, v199, v200, v201, v202, v203, v204, v205, v206, v207, v208, v209, v210, v211, v212, v213, v214, v215, v216, v217, v218, v219, v220, v221, v222, v223, v224, v225, v226, v227, v228, v229, v230, v231, v232, v233, v234, v235, v236, v237, v238, v239, v240, v241, v242, v243, v244, v245, v246, v247, v248, v249, v250, v251, v252, v253, v254, v255, v256, v257, v258, v259, v260, v261, v262, v263, v264, v265, v266, v267, v268, v269, v270, v271, v272, v273, v274, v275, v276, v277, v278, v279, v280, v281, v282, v283, v284, v285, v286, v287, v288, v289, v290, v291, v292, v293, v294, v295, v296, v297, v298, v299], []⟩ w := by
  show Code.wp Yba.prog (Code.seq (Code.region 26 _ _) _) (bodyPost Yba.prog Yba.f4 fun e w' => e = .returned (.bool true) ∧ Below w0.heap.size w0 w') _ _
  have hn64 := hn.le
  have hn2 := hn.pos
  have HN := hidB hn
  have PS : Hid (∀ f, f < n → R f = none → PSt w (B + 1) B (B + 2) k n f rb spot kd ct ln R (fun _ => 0) 0) := fun f hf hR => lst_prune hst HN.out f hf hR
  have EN : Hid (Env (B + 1) B (B + 2) k rb spot) := lst_env hst hsp
  have PW := hidB (prune_walk (B + 1) B (B + 2) k n rb spot kd ct ln R EN.out HN.out hk32 w hst.lnc (fun j => by have := hkd j; omega) (hst.free (by omega)) PS.out)
  have HST := hidB hst
  have HE := hidB he
  have HKD := hidB hkd
  have HSP := hidB hsp
  have HKN := hidB hkn
  have HB := hidB hB
  clear hst PS he hn hkd hB
  go_upto_block 3 with (go_at_call 13; refine PW.out.mono ?_; rintro e w5 ⟨f, R5, st, u, hf, hu, rfl, hchg, w6, hps, hw5⟩; replace hw5 := hidB hw5; replace hu := hidB hu)
  have KC : Hid (cntB (kept st) k = cntB (fun j => kd j != 0) k) := (pst_done hf EN.out hps u hu.out).2
  have AF : Hid (Aft w0 w5 a L B k n f rb spot kn kd ct ln R5) := {
    he := HE.out, hB := HB.out, hkL := hkL, hk32 := hk32, hL := hL, hsp := HSP.out, hkn := HKN.out, hkd := HKD.out, hn := HN.out, hf := hf
    done := by rw [hw5.out]; exact (pst_done hf EN.out hps u hu.out).1
    b5 := HST.out.below.trans (hchg.below fun b hb => by
          rcases hb with h | h | ⟨j, hj, h⟩
          · omega
          · omega
          · have := HST.out.rbs j hj; omega)
    row := HST.out.row.of_heap (hchg.block _ (fun hb => by
          rcases hb with h | h | ⟨j, hj, h⟩
          · omega
          · omega
          · have := HST.out.rbs j hj; omega))
    inj := HST.out.inj
    rbs := fun j hj => by have := (HST.out.rbs j hj).2; rw [hchg.size]; exact this }
  clear hchg hps hw5 PW
  rw [KC.out]
  clear KC hu
  have z11 : bits .and .u8 1 1 = 1 := by decide +kernel
  have z12 : bits .and .u8 1 2 = 0 := by decide +kernel
  have z21 : bits .and .u8 2 1 = 0 := by decide +kernel
  have z22 : bits .and .u8 2 2 = 2 := by decide +kernel
  have z01 : bits .and .u8 0 1 = 0 := by decide +kernel
  have z02 : bits .and .u8 0 2 = 0 := by decide +kernel
  go_cut [14, 15, 16] (fun av bv cv wc => av = .int .i64 (cntB (fun i => kd i != 0) k : Nat) ∧ bv = .int .i64 (cntB (fun i => ct i && kd i != 3) k : Nat) ∧ cv = .int .i64 (cntB (fun i => kd i == 0) k : Nat) ∧ Below w5.heap.size w5 wc)
  case first =>
    go_wp2
    go_loopw [14, 15, 16, 17] (fun av bv cv dv wr => ∃ j : Nat, j ≤ k ∧ av = .int .i64 (cntB (fun i => kd i != 0) j : Nat) ∧ bv = .int .i64 (cntB (fun i => ct i && kd i != 3) j : Nat) ∧ cv = .int .i64 (cntB (fun i => kd i == 0) j : Nat) ∧ dv = .int .i64 j ∧ Below w5.heap.size w5 wr) (fun _ _ _ dv _ => k - (intOf dv).toNat)
    case atStart => exact ⟨0, by omega, rfl, rfl, rfl, rfl, Below.refl _ _⟩
    case round =>
      obtain ⟨j, hj, rfl, rfl, rfl, rfl, hbw⟩ := hrel
      by_cases hjk : j < k
      · obtain ⟨b, off, rfl, p0, p1, p2⟩ := AF.out.entry hbw j hjk
        have pr := AF.out.res hbw j hjk
        have pra : ∀ o, (wr.alloc o).cell? ⟨B + 3, j, none⟩ = some (.pointer (some ⟨rb j, 0, none⟩)) := fun o => by rw [World.cell?_alloc_past _ _ _ (block_lt_of_cell pr)]; exact pr
        have hres := AF.out.done.res j hjk
        have t8 := hres.cells.2.2.2.2
        have t8w := (hbw.cell (p := ⟨rb j, 8, none⟩) (AF.out.rbs j hjk)).trans t8
        have t8a : ∀ o, (wr.alloc o).cell? ⟨rb j, 8, none⟩ = some (.int .u8 (if kd j = 0 then 1 else if kd j = 3 then tf0 ct j else 0)) := fun o => by rw [World.cell?_alloc_past _ _ _ (block_lt_of_cell t8w)]; exact t8w
        have OC : Hid (∀ o, Calls Yba.prog 14 #[.pointer (some ⟨B + 1, 0, none⟩), .int .i64 n, .pointer (some ⟨rb j, 0, none⟩)] (wr.alloc o) fun e w' => e = .returned (.int .i64 (cntB (fun p => R5 p == some j) n : Nat)) ∧ w' = wr.alloc o) := fun o => by
          have hb2 : Below w5.heap.size w5 (wr.alloc o) := hbw.alloc hbw.size o
          exact occ_walk (B + 1) B n k j rb spot R5 HN.out _ (AF.out.tab hb2) hjk AF.out.done.mem AF.out.inj (fun i hi => by
            obtain ⟨c, hc, _⟩ := AF.out.done.res i hi
            exact ⟨c, (hb2.block _ (AF.out.rbs i hi)).trans hc⟩)
        have BW : Hid (∀ o, Below w5.heap.size w5 (wr.alloc o)) := fun o => hbw.alloc hbw.size o
        obtain ⟨sp, esp⟩ : ∃ y : Int, y = ((spot j : Nat) : Int) := ⟨_, rfl⟩
        obtain ⟨kq, ekq⟩ : ∃ y : Nat, y = kn j := ⟨_, rfl⟩
        obtain ⟨kr, ekr⟩ : ∃ y : Nat, y = kd j := ⟨_, rfl⟩
        have e4 : (kq : Int) % 4 = (kr : Int) := by have := HKD.out j; omega
        have e4' : (kq : Int).tmod 4 = (kr : Int) := by rw [Int.tmod_eq_emod_of_nonneg (by omega)]; omega
        have hkr : kr < 4 := by have := HKD.out j; omega
        have hkq : kq < 256 := by rw [ekq]; exact HKN.out j
        rw [← esp] at p0
        rw [← ekq] at p1
        have l1 := cntB_le (fun i => kd i != 0) j
        have l2 := cntB_le (fun i => ct i && kd i != 3) j
        have l3 := cntB_le (fun i => kd i == 0) j
        have s1 : cntB (fun i => kd i != 0) (j + 1) = cntB (fun i => kd i != 0) j + (if (kd j != 0) = true then 1 else 0) := rfl
        have s2 : cntB (fun i => ct i && kd i != 3) (j + 1) = cntB (fun i => ct i && kd i != 3) j + (if (ct j && kd j != 3) = true then 1 else 0) := rfl
        have s3 : cntB (fun i => kd i == 0) (j + 1) = cntB (fun i => kd i == 0) j + (if (kd j == 0) = true then 1 else 0) := rfl
        have HJ := hidB hjk
        have RL : Hid (∀ (o : Obj) (A U V : Int), A = (cntB (fun i => kd i != 0) (j + 1) : Nat) → U = (cntB (fun i => ct i && kd i != 3) (j + 1) : Nat) → V = (cntB (fun i => kd i == 0) (j + 1) : Nat) → ∃ j' : Nat, j' ≤ k ∧ (Value.int .i64 A) = .int .i64 (cntB (fun i => kd i != 0) j' : Nat) ∧ (Value.int .i64 U) = .int .i64 (cntB (fun i => ct i && kd i != 3) j' : Nat) ∧
            (Value.int .i64 V) = .int .i64 (cntB (fun i => kd i == 0) j' : Nat) ∧ (Value.int .i64 ((j : Int) + 1)) = .int .i64 j' ∧ Below w5.heap.size w5 (wr.alloc o)) := fun o A U V h1 h2 h3 => ⟨j + 1, hjk, by rw [h1], by rw [h2], by rw [h3], rfl, BW.out o⟩
        have o0 : Hid (kd j = 0 → cntB (fun p => R5 p == some j) n = 0) := AF.out.done.occ0 j hjk
        have o1 : Hid (kd j ≠ 0 → cntB (fun p => R5 p == some j) n = 1) := AF.out.done.occ1 j hjk
        have HSS : Hid (cntB (fun i => kd i != 0) (j + 1) = cntB (fun i => kd i != 0) j + (if (kd j != 0) = true then 1 else 0) ∧ cntB (fun i => ct i && kd i != 3) (j + 1) = cntB (fun i => ct i && kd i != 3) j + (if (ct j && kd j != 3) = true then 1 else 0) ∧
            cntB (fun i => kd i == 0) (j + 1) = cntB (fun i => kd i == 0) j + (if (kd j == 0) = true then 1 else 0)) := ⟨s1, s2, s3⟩
        have HKR := hidB ekr
        obtain ⟨A, eA⟩ : ∃ y : Nat, y = cntB (fun i => kd i != 0) j := ⟨_, rfl⟩
        obtain ⟨U, eU⟩ : ∃ y : Nat, y = cntB (fun i => ct i && kd i != 3) j := ⟨_, rfl⟩
        obtain ⟨V, eV⟩ : ∃ y : Nat, y = cntB (fun i => kd i == 0) j := ⟨_, rfl⟩
        rw [← eA] at HSS l1 ⊢
        rw [← eU] at HSS l2 ⊢
        rw [← eV] at HSS l3 ⊢
        clear ekr eA eU eV s1 s2 s3 esp ekq hbw hres t8 t8w pr hjk
        obtain ⟨cv, hcv⟩ : ∃ cv, cv = ct j := ⟨_, rfl⟩
        have HCV := hidB hcv
        rw [← hcv] at p2
        clear hcv
        rcases (by omega : kr = 0 ∨ kr = 3 ∨ kr = 1 ∨ kr = 2) with rfl | rfl | rfl | rfl
        · have t8b : ∀ o, (wr.alloc o).cell? ⟨rb j, 8, none⟩ = some (.int .u8 1) := fun o => by rw [t8a, if_pos HKR.out.symm]
          rw [o0.out HKR.out.symm] at OC
          clear t8a
          cases cv with
          | true =>
            go_wp2_with (go_at_call 14; refine (OC.out _).mono ?_; rintro e w8 ⟨rfl, rfl⟩)
            go_roundw
            case rel =>
              have h := HSS.out
              rw [← HKR.out, ← HCV.out] at h
              simp at h
              exact RL.out _ _ _ _ (by omega) (by omega) (by omega)
            case measure => have := HJ.out; simp [intOf]; omega
          | false =>
            go_wp2_with (go_at_call 14; refine (OC.out _).mono ?_; rintro e w8 ⟨rfl, rfl⟩)
            go_roundw
            case rel =>
              have h := HSS.out
              rw [← HKR.out, ← HCV.out] at h
              simp at h
              exact RL.out _ _ _ _ (by omega) (by omega) (by omega)
            case measure => have := HJ.out; simp [intOf]; omega
        · rw [o1.out (by rw [← HKR.out]; omega)] at OC
          cases cv with
          | true =>
            have t8b : ∀ o, (wr.alloc o).cell? ⟨rb j, 8, none⟩ = some (.int .u8 2) := fun o => by rw [t8a, if_neg (by rw [← HKR.out]; omega), if_pos HKR.out.symm]; simp [tf0, ← HCV.out]
            clear t8a
            go_wp2_with (go_at_call 14; refine (OC.out _).mono ?_; rintro e w8 ⟨rfl, rfl⟩)
            go_roundw
            case rel =>
              have h := HSS.out
              rw [← HKR.out, ← HCV.out] at h
              simp at h
              exact RL.out _ _ _ _ (by omega) (by omega) (by omega)
            case measure => have := HJ.out; simp [intOf]; omega
          | false =>
            have t8b : ∀ o, (wr.alloc o).cell? ⟨rb j, 8, none⟩ = some (.int .u8 0) := fun o => by rw [t8a, if_neg (by rw [← HKR.out]; omega), if_pos HKR.out.symm]; simp [tf0, ← HCV.out]
            clear t8a
            go_wp2_with (go_at_call 14; refine (OC.out _).mono ?_; rintro e w8 ⟨rfl, rfl⟩)
            go_roundw
            case rel =>
              have h := HSS.out
              rw [← HKR.out, ← HCV.out] at h
              simp at h
              exact RL.out _ _ _ _ (by omega) (by omega) (by omega)
            case measure => have := HJ.out; simp [intOf]; omega
        · have t8b : ∀ o, (wr.alloc o).cell? ⟨rb j, 8, none⟩ = some (.int .u8 0) := fun o => by rw [t8a, if_neg (by rw [← HKR.out]; omega), if_neg (by rw [← HKR.out]; omega)]
          rw [o1.out (by rw [← HKR.out]; omega)] at OC
          clear t8a
          cases cv with
          | true =>
            go_wp2_with (go_at_call 14; refine (OC.out _).mono ?_; rintro e w8 ⟨rfl, rfl⟩)
            go_roundw
            case rel =>
              have h := HSS.out
              rw [← HKR.out, ← HCV.out] at h
              simp at h
              exact RL.out _ _ _ _ (by omega) (by omega) (by omega)
            case measure => have := HJ.out; simp [intOf]; omega
          | false =>
            go_wp2_with (go_at_call 14; refine (OC.out _).mono ?_; rintro e w8 ⟨rfl, rfl⟩)
            go_roundw
            case rel =>
              have h := HSS.out
              rw [← HKR.out, ← HCV.out] at h
              simp at h
              exact RL.out _ _ _ _ (by omega) (by omega) (by omega)
            case measure => have := HJ.out; simp [intOf]; omega
        · have t8b : ∀ o, (wr.alloc o).cell? ⟨rb j, 8, none⟩ = some (.int .u8 0) := fun o => by rw [t8a, if_neg (by rw [← HKR.out]; omega), if_neg (by rw [← HKR.out]; omega)]
          rw [o1.out (by rw [← HKR.out]; omega)] at OC
          clear t8a
          cases cv with
          | true =>
            go_wp2_with (go_at_call 14; refine (OC.out _).mono ?_; rintro e w8 ⟨rfl, rfl⟩)
            go_roundw
            case rel =>
              have h := HSS.out
              rw [← HKR.out, ← HCV.out] at h
              simp at h
              exact RL.out _ _ _ _ (by omega) (by omega) (by omega)
            case measure => have := HJ.out; simp [intOf]; omega
          | false =>
            go_wp2_with (go_at_call 14; refine (OC.out _).mono ?_; rintro e w8 ⟨rfl, rfl⟩)
            go_roundw
            case rel =>
              have h := HSS.out
              rw [← HKR.out, ← HCV.out] at h
              simp at h
              exact RL.out _ _ _ _ (by omega) (by omega) (by omega)
            case measure => have := HJ.out; simp [intOf]; omega
      · have hjk2 : k = j := by omega
        subst hjk2
        go_wp2
        go_meet
        case rel => exact ⟨rfl, rfl, rfl, hbw⟩
  case rest =>
    obtain ⟨rfl, rfl, rfl, hb9⟩ := hcut
    rename_i hK
    refine hK _ _ ?_
    exact from12 AF.out hb9 cap _ _ _ rfl rfl
end Go.Proofs.Ybulkamzi
