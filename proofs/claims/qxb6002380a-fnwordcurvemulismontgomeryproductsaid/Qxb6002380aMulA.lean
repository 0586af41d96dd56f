import Derived.Test.Qxb6002380aStore
namespace Go.Proofs.Qxb6002380a
open Go.RowKit

/-- Does a code begin with region r? -/
def headIs (r : Nat) : Nat → Code → Bool
  | 0, _ => false
  | f + 1, .seq a _ => headIs r f a
  | _ + 1, .region id _ _ => id == r
  | _ + 1, _ => false
/-- The part of a sequence that begins with region r. -/
def tailFrom (r : Nat) : Nat → Code → Option Code
  | 0, _ => none
  | f + 1, .seq a b => if headIs r f a then some (.seq a b) else match tailFrom r f b with
    | some c => some c
    | none => tailFrom r f a
  | f + 1, .block _ c => tailFrom r f c
  | f + 1, .loop c => tailFrom r f c
  | f + 1, .scope c => tailFrom r f c
  | _ + 1, _ => none

/-- The running sum lies in block bt; below bt nothing has turned. -/
def St (w0 wr : World) (bt : Nat) (t : Nat → Nat) : Prop :=
  wr.rowIs bt 89 10 (fun i => .int .u64 (t i : Nat)) ∧ Below bt w0 wr ∧ ∀ k, t k < W

theorem St.set {w0 wr : World} {bt : Nat} {t : Nat → Nat} (h : St w0 wr bt t) (i v : Nat) (hv : v < W) : St w0 (wr.setCell ⟨bt, i, none⟩ (.int .u64 (v : Nat))) bt (up t i v) := by
  refine ⟨(h.1.set i _).congr fun k _ => ?_, h.2.1.setCell (p := ⟨bt, i, none⟩) (Nat.le_refl bt) _, up_lt h.2.2 hv⟩
  unfold up
  by_cases e : k = i
  · simp [e]
  · simp [e]

theorem St.drewN {w0 wr : World} {bt : Nat} {t : Nat → Nat} (h : St w0 wr bt t) (k : Nat) : St w0 (wr.drewN k) bt t :=
  ⟨h.1.of_block rfl, below_drewN h.2.1 k, h.2.2⟩

theorem wc_word {q : Nat → Nat} {n i : Nat} (h : i ≠ 9) : wc q n i = .int .u64 (q i) := by simp [wc, h]

theorem St.word {w0 wr : World} {bt wb n : Nat} {q t : Nat → Nat} (h : St w0 wr bt t) (hr : w0.rowIs wb 85 29 (wc q n)) (hwb : wb < bt) (i : Nat) (hi : i < 29) (h9 : i ≠ 9) : wr.cell? ⟨wb, i, none⟩ = some (.int .u64 (q i)) := by
  rw [h.2.1.cell (p := ⟨wb, i, none⟩) hwb, hr.cell hi, wc_word h9]

theorem round' {t x u p v : Nat → Nat} {n m1 yi m c2 c3 top ov s c4 : Nat} (hn : n = m1 + 1) (h2 : L2 t x yi n u c2) (ht : t n + c2 = ov * W + top)
    (h3 : L3 u p m m1 v c3) (hs : top + c3 = c4 * W + s) :
    W * val (up (up v m1 s) n (ov + c4)) (n + 1) = val t (n + 1) + yi * val x n + m * val p n := by
  subst hn
  exact round (s := s) (c4 := c4) (top := top) (ov := ov) h2 (by rw [ht]; omega) h3 (by rw [hs]; omega)

set_option maxRecDepth 1000000 in
set_option maxHeartbeats 8000000 in
/-- A round's second half: m times p is added and the lowest word dropped. -/
theorem tail18 (wb bt n yi c2 top ov m : Nat) (q x t u : Nat → Nat) (w0 w : World) (Q : Exit → Act → World → Prop) (hn0 : 1 ≤ n) (hn : n ≤ 9) (hwb : wb < bt)
    (Hq : Hid (∀ k, q k < W)) (Hrow : Hid (w0.rowIs wb 85 29 (wc q n))) (Hinv : Hid ((q 0 * q 10 + 1) % W = 0)) (HS : Hid (St w0 w bt u))
    (H2 : Hid (L2 t x yi n u c2)) (Htop : Hid (t n + c2 = ov * W + top)) (htop : top < 18446744073709551616) (hov : ov ≤ 1) (hmW : m < W) (Hm : Hid (m = u 0 * q 10 % W))
    (v1 v2 v3 v4 v5 v6 v7 v8 v9 v11 v13 v14 v15 v16 v17 v18 v19 v20 v24 v25 v26 v27 v28 v29 v30 v31 v32 v33 v34 v35 v36 v37 v38 v39 v40 v41 v42 v43 v44 v45 v46 v47 v48 v49 v50 v51 v52 v53 v54 v55 v56 v57 v58 v59 v60 v61 v62 v63 v64 v65 v66 v67 v68 v69 v70 v71 v72 v73 v74 v75 v76 v77 v78 v79 v80 v81 v82 v83 v84 v85 v86 v87 v88 v89 v90 v91 v92 v93 v94 v95 v96 v97 v98 v99 v100 v101 v102 v103 v104 v105 v106 v107 v108 v109 v110 v111 v112 v113 v114 v115 v116 v117 v118 v119 v120 v121 v122 v123 v124 v125 v126 v127 v128 v129 v130 v131 v132 v133 v134 v135 v136 v137 v138 v139 v140 v141 v142 v143 v144 v145 v146 v147 v148 v149 v150 v151 v152 v153 v154 v155 v156 v157 v158 v159 v160 v161 v162 v163 v164 v165 v166 v167 v168 v169 v170 v171 v172 v173 v174 v175 v176 v177 v178 v179 v180 v181 v182 v183 v184 v185 v186 v187 v188 v189 v190 v191 v192 v193 v194 v195 v196 v197 v198 v199 v200 v201 v202 v203 v204 v205 v206 v207 v208 v209 v210 v211 v212 v213 v214 v215 v216 v217 v218 v219 v220 v221 v222 v223 v224 v225 v226 v227 v228 v229 v230 v231 v232 v233 v234 v235 v236 v237 v238 v239 v240 v241 : Value)
    (HQ : Hid (∀ (t' : Nat → Nat) (w' : World) (u15 u16 u24 u25 u26 u27 u28 u122 u123 u124 u125 u126 u127 u128 u129 u130 u131 u132 u133 u134 u135 u136 u137 u138 u139 u140 u141 u142 u143 u144 u145 u146 u147 u148 u149 u150 u151 u152 u153 u154 u155 u156 u157 u158 u159 u160 u161 u162 u163 u164 u165 u166 u167 u168 u169 u170 u171 u172 u173 u174 u175 u176 u177 u178 u179 u180 u181 u182 u183 u184 u185 u186 u187 u188 u189 u190 u191 u192 u193 u194 u195 u196 u197 u198 : Value), W * val t' (n + 1) = val t (n + 1) + yi * val x n + m * val q n → St w0 w' bt t' →
      Q .normal { tmps := #[.pointer (some ⟨wb, 0, none⟩), v1, v2, v3, v4, v5, v6, v7, v8, v9, .slice (some ⟨wb, 0, none⟩) n 9, v11, .slice (some ⟨bt, 0, none⟩) (n + 1) 10, v13, v14, u15, u16, v17, v18, v19, v20, .int .u64 top, .int .u64 ov, .int .u64 m, u24, u25, u26, u27, u28, v29, v30, v31, v32, v33, v34, v35, v36, v37, v38, v39, v40, v41, v42, v43, v44, v45, v46, v47, v48, v49, v50, v51, v52, v53, v54, v55, v56, v57, v58, v59, v60, v61, v62, v63, v64, v65, v66, v67, v68, v69, v70, v71, v72, v73, v74, v75, v76, v77, v78, v79, v80, v81, v82, v83, v84, v85, v86, v87, v88, v89, v90, v91, v92, v93, v94, v95, v96, v97, v98, v99, v100, v101, v102, v103, v104, v105, v106, v107, v108, v109, v110, v111, v112, v113, v114, v115, v116, v117, v118, v119, v120, v121, u122, u123, u124, u125, u126, u127, u128, u129, u130, u131, u132, u133, u134, u135, u136, u137, u138, u139, u140, u141, u142, u143, u144, u145, u146, u147, u148, u149, u150, u151, u152, u153, u154, u155, u156, u157, u158, u159, u160, u161, u162, u163, u164, u165, u166, u167, u168, u169, u170, u171, u172, u173, u174, u175, u176, u177, u178, u179, u180, u181, u182, u183, u184, u185, u186, u187, u188, u189, u190, u191, u192, u193, u194, u195, u196, u197, u198, v199, v200, v201, v202, v203, v204, v205, v206, v207, v208, v209, v210, v211, v212, v213, v214, v215, v216, v217, v218, v219, v220, v221, v222, v223, v224, v225, v226, v227, v228, v229, v230, v231, v232, v233, v234, v235, v236, v237, v238, v239, v240, v241], defers := [] } w')) :
    Code.wp Try.prog ((Try.f39.body.bind (tailFrom 18 60)).getD .skip) Q { tmps := #[.pointer (some ⟨wb, 0, none⟩), v1, v2, v3, v4, v5, v6, v7, v8, v9, .slice (some ⟨wb, 0, none⟩) n 9, v11, .slice (some ⟨bt, 0, none⟩) (n + 1) 10, v13, v14, v15, v16, v17, v18, v19, v20, .int .u64 top, .int .u64 ov, .int .u64 m, v24, v25, v26, v27, v28, v29, v30, v31, v32, v33, v34, v35, v36, v37, v38, v39, v40, v41, v42, v43, v44, v45, v46, v47, v48, v49, v50, v51, v52, v53, v54, v55, v56, v57, v58, v59, v60, v61, v62, v63, v64, v65, v66, v67, v68, v69, v70, v71, v72, v73, v74, v75, v76, v77, v78, v79, v80, v81, v82, v83, v84, v85, v86, v87, v88, v89, v90, v91, v92, v93, v94, v95, v96, v97, v98, v99, v100, v101, v102, v103, v104, v105, v106, v107, v108, v109, v110, v111, v112, v113, v114, v115, v116, v117, v118, v119, v120, v121, v122, v123, v124, v125, v126, v127, v128, v129, v130, v131, v132, v133, v134, v135, v136, v137, v138, v139, v140, v141, v142, v143, v144, v145, v146, v147, v148, v149, v150, v151, v152, v153, v154, v155, v156, v157, v158, v159, v160, v161, v162, v163, v164, v165, v166, v167, v168, v169, v170, v171, v172, v173, v174, v175, v176, v177, v178, v179, v180, v181, v182, v183, v184, v185, v186, v187, v188, v189, v190, v191, v192, v193, v194, v195, v196, v197, v198, v199, v200, v201, v202, v203, v204, v205, v206, v207, v208, v209, v210, v211, v212, v213, v214, v215, v216, v217, v218, v219, v220, v221, v222, v223, v224, v225, v226, v227, v228, v229, v230, v231, v232, v233, v234, v235, v236, v237, v238, v239, v240, v241], defers := [] } w := by
  conv => arg 2; whnf
  have hn9 : (n : Int) ≤ 9 := by omega
  have hn1 : (0 : Int) < (n : Int) := by omega
  have hn1' : (0 : Int) < (n : Int) + 1 := by omega
  have ct : w.cell? ⟨bt, 0, none⟩ = some (.int .u64 (u 0)) := HS.out.1.cell (i := 0) (by omega)
  have cp0 : w.cell? ⟨wb, 0, none⟩ = some (.int .u64 (q 0)) := HS.out.word Hrow.out hwb 0 (by omega) (by omega)
  go_wp2_with fail
  refine (mulW m (q 0) hmW (Hq.out 0) _).mono ?_
  rintro e w1 ⟨hi, lo, rfl, rfl, h1, hhi, hlo⟩
  have Hh1 := hide h1
  clear h1
  go_wp2_with fail
  refine (addW0 lo (u 0) hlo (HS.out.2.2 0) _).mono ?_
  rintro e w1 ⟨s, c, rfl, rfl, h2, hs, hc⟩
  obtain ⟨g1, g2⟩ := mred hmW (HS.out.2.2 0) (Hq.out 0) Hinv.out Hm.out Hh1.out h2 hs
  have Hg2 := hide g2
  clear g2 h2 Hh1
  have g1' : hi + c < 18446744073709551616 := g1
  clear g1
  go_wp2
  clear ct cp0
  go_loopw [15, 26] (fun s15 s26 wr => ∃ (i c : Nat) (v : Nat → Nat), i < n ∧ s15 = .int .u64 (c : Nat) ∧ s26 = .int .i64 ((i : Int) + 1) ∧ L3 u q m i v c ∧ St w0 wr bt v) (fun _ s26 _ => n - (intOf s26).toNat)
  case atStart => exact ⟨0, hi + c, u, by omega, by go_num, by go_num, L3.start HS.out.2.2 g1' Hg2.out, HS.out⟩
  case round =>
    obtain ⟨i, c3, v, hi9, rfl, rfl, h3, hS⟩ := hrel
    have H3 := hide h3
    have HSr := hide hS
    clear h3 hS g1' Hg2
    by_cases hlt : i + 1 < n
    · have i1 : (i : Int) + 1 < (n : Int) := by omega
      have i2 : (i : Int) + 1 < (n : Int) + 1 := by omega
      have i3 : (i : Int) < (n : Int) + 1 := by omega
      have i4 : (0 : Int) ≤ (i : Int) + 1 := by omega
      have cq : wr.cell? ⟨wb, i + 1, none⟩ = some (.int .u64 (q (i + 1))) := HSr.out.word Hrow.out hwb (i + 1) (by omega) (by omega)
      have cv : wr.cell? ⟨bt, i + 1, none⟩ = some (.int .u64 (v (i + 1))) := HSr.out.1.cell (i := i + 1) (by omega)
      have cs : wr.cell? ⟨bt, i, none⟩ = some (.int .u64 (v i)) := HSr.out.1.cell (i := i) (by omega)
      have cf := HSr.out.1.frozen i
      go_wp2_with fail
      refine (mulW m (q (i + 1)) hmW (Hq.out _) _).mono ?_
      rintro e w1 ⟨hi, lo, rfl, rfl, h1, hhi, hlo⟩
      have Hh1 := hide h1
      clear h1
      go_wp2_with fail
      refine (addW0 lo (v (i + 1)) hlo (HSr.out.2.2 _) _).mono ?_
      rintro e w1 ⟨s1, c1, rfl, rfl, h2, hs1, hc1⟩
      have b1 : hi + c1 < 18446744073709551616 := (mac hmW (Hq.out (i + 1)) (HSr.out.2.2 (i + 1)) W_pos Hh1.out h2 (c2 := 0) (s2 := s1) (by omega)).1
      have Hh2 := hide h2
      clear h2
      go_wp2_with fail
      refine (addW0 s1 c3 hs1 H3.out.2.2.2 _).mono ?_
      rintro e w1 ⟨s2, c4, rfl, rfl, h3, hs2, hc2⟩
      obtain ⟨-, b2, b3⟩ := mac hmW (Hq.out (i + 1)) (HSr.out.2.2 (i + 1)) H3.out.2.2.2 Hh1.out Hh2.out h3
      have b2' : hi + c1 + c4 < 18446744073709551616 := b2
      have Hb3 := hide b3
      clear b2 b3 h3 Hh1 Hh2
      go_wp2
      go_roundw
      case rel => exact ⟨i + 1, hi + c1 + c4, up v i s2, by omega, by go_num, by go_num, H3.out.step hs2 b2' Hb3.out, HSr.out.set i s2 hs2⟩
      case measure => simp [intOf]; omega
    · have Hn2 : Hid (n = i + 1) := hide (by omega)
      have cs : wr.cell? ⟨bt, i, none⟩ = some (.int .u64 (v i)) := HSr.out.1.cell (i := i) (by omega)
      have cf := HSr.out.1.frozen i
      have csn : wr.cell? ⟨bt, n, none⟩ = some (.int .u64 (v n)) := HSr.out.1.cell (i := n) (by omega)
      have cfn := HSr.out.1.frozen n
      have hin : i ≠ n := by omega
      have i3 : (i : Int) < (n : Int) + 1 := by omega
      have hnm : (n : Int) - 1 = (i : Int) := by omega
      have i1 : ¬ ((i : Int) + 1 < (n : Int)) := by omega
      go_wp2_with fail
      refine (addW0 top c3 htop H3.out.2.2.2 _).mono ?_
      rintro e w1 ⟨s2, c4, rfl, rfl, h4, hs2, hc4⟩
      have Hh4 := hide h4
      clear h4
      have hoc : ov + c4 < 18446744073709551616 := by omega
      go_wp2
      exact HQ.out (up (up v i s2) n (ov + c4)) _ _ _ _ _ _ _ _ _ _ _ _ _ _ _ _ _ _ _ _ _ _ _ _ _ _ _ _ _ _ _ _ _ _ _ _ _ _ _ _ _ _ _ _ _ _ _ _ _ _ _ _ _ _ _ _ _ _ _ _ _ _ _ _ _ _ _ _ _ _ _ _ _ _ _ _ _ _ _ _ _ _ _ _ _ (round' Hn2.out H2.out Htop.out H3.out Hh4.out) ((HSr.out.set i s2 hs2).set n (ov + c4) hoc)

end Go.Proofs.Qxb6002380a
