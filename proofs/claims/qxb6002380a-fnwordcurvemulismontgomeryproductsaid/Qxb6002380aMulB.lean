import Derived.Test.Qxb6002380aMulA
namespace Go.Proofs.Qxb6002380a
open Go.RowKit

set_option maxRecDepth 1000000 in
set_option maxHeartbeats 8000000 in
/-- A round: a word of y times x is added, then the multiple of p, and the lowest word dropped. -/
theorem tail6 (wb bt xb xo n yk : Nat) (q x t : Nat → Nat) (w0 w : World) (Q : Exit → Act → World → Prop) (hn0 : 1 ≤ n) (hn : n ≤ 9) (hwb : wb < bt) (hxb : xb < bt)
    (Hq : Hid (∀ k, q k < W)) (Hxw : Hid (∀ k, x k < W)) (hyW : yk < W) (Hrow : Hid (w0.rowIs wb 85 29 (wc q n))) (Hinv : Hid ((q 0 * q 10 + 1) % W = 0)) (HS : Hid (St w0 w bt t))
    (Hx : Hid (∀ i, i < n → w0.cell? ⟨xb, xo + i, none⟩ = some (.int .u64 (x i))))
    (v1 v2 v3 v4 v5 v6 v7 v9 v11 v13 v15 v16 v17 v18 v19 v20 v21 v22 v23 v24 v25 v26 v27 v28 v29 v30 v31 v32 v33 v34 v35 v36 v37 v38 v39 v40 v41 v42 v43 v44 v45 v46 v47 v48 v49 v50 v51 v52 v53 v54 v55 v56 v57 v58 v59 v60 v61 v62 v63 v64 v65 v66 v67 v68 v69 v70 v71 v72 v73 v74 v75 v76 v77 v78 v79 v80 v81 v82 v83 v84 v85 v86 v87 v88 v89 v90 v91 v92 v93 v94 v95 v96 v97 v98 v99 v100 v101 v102 v103 v104 v105 v106 v107 v108 v109 v110 v111 v112 v113 v114 v115 v116 v117 v118 v119 v120 v121 v122 v123 v124 v125 v126 v127 v128 v129 v130 v131 v132 v133 v134 v135 v136 v137 v138 v139 v140 v141 v142 v143 v144 v145 v146 v147 v148 v149 v150 v151 v152 v153 v154 v155 v156 v157 v158 v159 v160 v161 v162 v163 v164 v165 v166 v167 v168 v169 v170 v171 v172 v173 v174 v175 v176 v177 v178 v179 v180 v181 v182 v183 v184 v185 v186 v187 v188 v189 v190 v191 v192 v193 v194 v195 v196 v197 v198 v199 v200 v201 v202 v203 v204 v205 v206 v207 v208 v209 v210 v211 v212 v213 v214 v215 v216 v217 v218 v219 v220 v221 v222 v223 v224 v225 v226 v227 v228 v229 v230 v231 v232 v233 v234 v235 v236 v237 v238 v239 v240 v241 : Value)
    (HQ : Hid (∀ (t' : Nat → Nat) (m : Nat) (w' : World) (u15 u16 u17 u18 u19 u20 u21 u22 u23 u24 u25 u26 u27 u28 u66 u67 u68 u69 u70 u71 u72 u73 u74 u75 u76 u77 u78 u79 u80 u81 u82 u83 u84 u85 u86 u87 u88 u89 u90 u91 u92 u93 u94 u95 u96 u97 u98 u99 u100 u101 u102 u103 u104 u105 u106 u107 u108 u109 u110 u111 u112 u113 u114 u115 u116 u117 u118 u119 u120 u121 u122 u123 u124 u125 u126 u127 u128 u129 u130 u131 u132 u133 u134 u135 u136 u137 u138 u139 u140 u141 u142 u143 u144 u145 u146 u147 u148 u149 u150 u151 u152 u153 u154 u155 u156 u157 u158 u159 u160 u161 u162 u163 u164 u165 u166 u167 u168 u169 u170 u171 u172 u173 u174 u175 u176 u177 u178 u179 u180 u181 u182 u183 u184 u185 u186 u187 u188 u189 u190 u191 u192 u193 u194 u195 u196 u197 u198 : Value), m < W → W * val t' (n + 1) = val t (n + 1) + yk * val x n + m * val q n → St w0 w' bt t' →
      Q .normal { tmps := #[.pointer (some ⟨wb, 0, none⟩), v1, v2, v3, v4, v5, v6, v7, .slice (some ⟨xb, xo, none⟩) n 9, v9, .slice (some ⟨wb, 0, none⟩) n 9, v11, .slice (some ⟨bt, 0, none⟩) (n + 1) 10, v13, .int .u64 yk, u15, u16, u17, u18, u19, u20, u21, u22, u23, u24, u25, u26, u27, u28, v29, v30, v31, v32, v33, v34, v35, v36, v37, v38, v39, v40, v41, v42, v43, v44, v45, v46, v47, v48, v49, v50, v51, v52, v53, v54, v55, v56, v57, v58, v59, v60, v61, v62, v63, v64, v65, u66, u67, u68, u69, u70, u71, u72, u73, u74, u75, u76, u77, u78, u79, u80, u81, u82, u83, u84, u85, u86, u87, u88, u89, u90, u91, u92, u93, u94, u95, u96, u97, u98, u99, u100, u101, u102, u103, u104, u105, u106, u107, u108, u109, u110, u111, u112, u113, u114, u115, u116, u117, u118, u119, u120, u121, u122, u123, u124, u125, u126, u127, u128, u129, u130, u131, u132, u133, u134, u135, u136, u137, u138, u139, u140, u141, u142, u143, u144, u145, u146, u147, u148, u149, u150, u151, u152, u153, u154, u155, u156, u157, u158, u159, u160, u161, u162, u163, u164, u165, u166, u167, u168, u169, u170, u171, u172, u173, u174, u175, u176, u177, u178, u179, u180, u181, u182, u183, u184, u185, u186, u187, u188, u189, u190, u191, u192, u193, u194, u195, u196, u197, u198, v199, v200, v201, v202, v203, v204, v205, v206, v207, v208, v209, v210, v211, v212, v213, v214, v215, v216, v217, v218, v219, v220, v221, v222, v223, v224, v225, v226, v227, v228, v229, v230, v231, v232, v233, v234, v235, v236, v237, v238, v239, v240, v241], defers := [] } w')) :
    Code.wp Try.prog ((Try.f39.body.bind (tailFrom 6 60)).getD .skip) Q { tmps := #[.pointer (some ⟨wb, 0, none⟩), v1, v2, v3, v4, v5, v6, v7, .slice (some ⟨xb, xo, none⟩) n 9, v9, .slice (some ⟨wb, 0, none⟩) n 9, v11, .slice (some ⟨bt, 0, none⟩) (n + 1) 10, v13, .int .u64 yk, v15, v16, v17, v18, v19, v20, v21, v22, v23, v24, v25, v26, v27, v28, v29, v30, v31, v32, v33, v34, v35, v36, v37, v38, v39, v40, v41, v42, v43, v44, v45, v46, v47, v48, v49, v50, v51, v52, v53, v54, v55, v56, v57, v58, v59, v60, v61, v62, v63, v64, v65, v66, v67, v68, v69, v70, v71, v72, v73, v74, v75, v76, v77, v78, v79, v80, v81, v82, v83, v84, v85, v86, v87, v88, v89, v90, v91, v92, v93, v94, v95, v96, v97, v98, v99, v100, v101, v102, v103, v104, v105, v106, v107, v108, v109, v110, v111, v112, v113, v114, v115, v116, v117, v118, v119, v120, v121, v122, v123, v124, v125, v126, v127, v128, v129, v130, v131, v132, v133, v134, v135, v136, v137, v138, v139, v140, v141, v142, v143, v144, v145, v146, v147, v148, v149, v150, v151, v152, v153, v154, v155, v156, v157, v158, v159, v160, v161, v162, v163, v164, v165, v166, v167, v168, v169, v170, v171, v172, v173, v174, v175, v176, v177, v178, v179, v180, v181, v182, v183, v184, v185, v186, v187, v188, v189, v190, v191, v192, v193, v194, v195, v196, v197, v198, v199, v200, v201, v202, v203, v204, v205, v206, v207, v208, v209, v210, v211, v212, v213, v214, v215, v216, v217, v218, v219, v220, v221, v222, v223, v224, v225, v226, v227, v228, v229, v230, v231, v232, v233, v234, v235, v236, v237, v238, v239, v240, v241], defers := [] } w := by
  conv => arg 2; whnf
  have hn1 : (0 : Int) < (n : Int) := by omega
  go_wp2
  go_loopw [15, 68] (fun s15 s68 wr => ∃ (j c : Nat) (u : Nat → Nat), j ≤ n ∧ s15 = .int .u64 (c : Nat) ∧ s68 = .int .i64 (j : Int) ∧ L2 t x yk j u c ∧ St w0 wr bt u) (fun _ s68 _ => n - (intOf s68).toNat)
  case atStart => exact ⟨0, 0, t, by omega, by go_num, by go_num, L2.start HS.out.2.2, HS.out⟩
  case round =>
    obtain ⟨j, c, u, hj, rfl, rfl, h2, hS⟩ := hrel
    have H2 := hide h2
    have HSr := hide hS
    clear h2 hS
    by_cases hlt : j < n
    · have i1 : (j : Int) < (n : Int) := by omega
      have i2 : (j : Int) < (n : Int) + 1 := by omega
      have cx : wr.cell? ⟨xb, xo + j, none⟩ = some (.int .u64 (x j)) := cell_below HSr.out.2.1 hxb (Hx.out j hlt)
      have cs : wr.cell? ⟨bt, j, none⟩ = some (.int .u64 (u j)) := HSr.out.1.cell (i := j) (by omega)
      have cf := HSr.out.1.frozen j
      go_wp2_with fail
      refine (mulW (x j) yk (Hxw.out j) hyW _).mono ?_
      rintro e w1 ⟨hi, lo, rfl, rfl, h1, hhi, hlo⟩
      have Hh1 := hide h1
      clear h1
      go_wp2_with fail
      refine (addW0 lo (u j) hlo (HSr.out.2.2 _) _).mono ?_
      rintro e w1 ⟨s1, c1, rfl, rfl, h2, hs1, hc1⟩
      have b1 : hi + c1 < 18446744073709551616 := (mac (Hxw.out j) hyW (HSr.out.2.2 j) W_pos Hh1.out h2 (c2 := 0) (s2 := s1) (by omega)).1
      have Hh2 := hide h2
      clear h2
      go_wp2_with fail
      refine (addW0 s1 c hs1 H2.out.2.2.2 _).mono ?_
      rintro e w1 ⟨s2, c4, rfl, rfl, h3, hs2, hc2⟩
      obtain ⟨-, b2, b3⟩ := mac (Hxw.out j) hyW (HSr.out.2.2 j) H2.out.2.2.2 Hh1.out Hh2.out h3
      have b2' : hi + c1 + c4 < 18446744073709551616 := b2
      have Hb3 := hide b3
      clear b2 b3 h3 Hh1 Hh2
      go_wp2
      go_roundw
      case rel => exact ⟨j + 1, hi + c1 + c4, up u j s2, by omega, by go_num, by go_num, H2.out.step hs2 b2' Hb3.out, HSr.out.set j s2 hs2⟩
      case measure => simp [intOf]; omega
    · have Hjn : Hid (j = n) := hide (by omega)
      have i1 : ¬ ((j : Int) < (n : Int)) := by omega
      have csn : wr.cell? ⟨bt, n, none⟩ = some (.int .u64 (t n)) := by
        have e := H2.out.2.1 n (by omega)
        rw [← e]; exact HSr.out.1.cell (i := n) (by omega)
      have i2 : (n : Int) < (n : Int) + 1 := by omega
      go_wp2_with fail
      refine (addW0 (t n) c (HS.out.2.2 n) H2.out.2.2.2 _).mono ?_
      rintro e w1 ⟨top, ov, rfl, rfl, h4, htop, hov⟩
      have Hh4 := hide h4
      clear h4
      have HQ2 := HQ
      have HL2 : Hid (L2 t x yk n u c) := hide (by have h := H2.out; rw [Hjn.out] at h; exact h)
      have ct : w1.cell? ⟨bt, 0, none⟩ = some (.int .u64 (u 0)) := HSr.out.1.cell (i := 0) (by omega)
      have cp : w1.cell? ⟨wb, 10, none⟩ = some (.int .u64 (q 10)) := HSr.out.word Hrow.out hwb 10 (by omega) (by omega)
      have hn1' : (0 : Int) < (n : Int) + 1 := by omega
      obtain ⟨m, hm⟩ : ∃ m, m = u 0 * q 10 % W := ⟨_, rfl⟩
      have hmul : IntKind.u64.wrap ((u 0 : Int) * (q 10 : Int)) = (m : Int) := by
        rw [IntKind.wrap_u64, hm]; unfold W; rw [Int.natCast_emod, Int.natCast_mul]; rfl
      have hmW : m < W := by rw [hm]; exact Nat.mod_lt _ W_pos
      have Hm := hide hm
      clear hm
      go_upto_region 17 with (fail)
      go_quiet (fail)
      go_step
      go_step
      refine tail18 wb bt n yk c top ov m q x t u w0 _ _ hn0 hn hwb Hq Hrow Hinv (hide (HSr.out.drewN nq)) HL2 Hh4 htop hov hmW Hm _ _ _ _ _ _ _ _ _ _ _ _ _ _ _ _ _ _ _ _ _ _ _ _ _ _ _ _ _ _ _ _ _ _ _ _ _ _ _ _ _ _ _ _ _ _ _ _ _ _ _ _ _ _ _ _ _ _ _ _ _ _ _ _ _ _ _ _ _ _ _ _ _ _ _ _ _ _ _ _ _ _ _ _ _ _ _ _ _ _ _ _ _ _ _ _ _ _ _ _ _ _ _ _ _ _ _ _ _ _ _ _ _ _ _ _ _ _ _ _ _ _ _ _ _ _ _ _ _ _ _ _ _ _ _ _ _ _ _ _ _ _ _ _ _ _ _ _ _ _ _ _ _ _ _ _ _ _ _ _ _ _ _ _ _ _ _ _ _ _ _ _ _ _ _ _ _ _ _ _ _ _ _ _ _ _ _ _ _ _ _ _ _ _ _ _ _ _ _ _ _ _ _ _ _ _ _ _ _ _ _ _ _ _ _ _ _ _ _ _ _ _ _ _ _ _ _ _ _ _ _ _ _ _ _ _ ?_
      refine hide ?_
      intro t' w' u15 u16 u24 u25 u26 u27 u28 u122 u123 u124 u125 u126 u127 u128 u129 u130 u131 u132 u133 u134 u135 u136 u137 u138 u139 u140 u141 u142 u143 u144 u145 u146 u147 u148 u149 u150 u151 u152 u153 u154 u155 u156 u157 u158 u159 u160 u161 u162 u163 u164 u165 u166 u167 u168 u169 u170 u171 u172 u173 u174 u175 u176 u177 u178 u179 u180 u181 u182 u183 u184 u185 u186 u187 u188 u189 u190 u191 u192 u193 u194 u195 u196 u197 u198 he hS
      exact HQ2.out t' m w' _ _ _ _ _ _ _ _ _ _ _ _ _ _ _ _ _ _ _ _ _ _ _ _ _ _ _ _ _ _ _ _ _ _ _ _ _ _ _ _ _ _ _ _ _ _ _ _ _ _ _ _ _ _ _ _ _ _ _ _ _ _ _ _ _ _ _ _ _ _ _ _ _ _ _ _ _ _ _ _ _ _ _ _ _ _ _ _ _ _ _ _ _ _ _ _ _ _ _ _ _ _ _ _ _ _ _ _ _ _ _ _ _ _ _ _ _ _ _ _ _ _ _ _ _ _ _ _ _ _ _ _ _ _ _ _ _ _ _ _ _ _ _ _ _ _ _ hmW he hS

end Go.Proofs.Qxb6002380a
