import Derived.Test.Qxb6001336aStr2
namespace Go.Proofs.Qxb6001336a
open Go.RowKit

/-- Does a code begin with region r? -/
def headIs (r : Nat) : Nat → Code → Bool
  | 0, _ => false
  | f + 1, .seq a _ => headIs r f a
  | _ + 1, .region id _ _ => id == r
  | _ + 1, _ => false
/-- The part of a sequence that begins with region r. -/
def tailFrom (r : Nat) : Nat → Code → Option Code
  | 0, _ => none
  | f + 1, .seq a b => if headIs r f a then some (.seq a b) else match tailFrom r f b with
    | some c => some c
    | none => tailFrom r f a
  | _ + 1, _ => none

set_option maxRecDepth 1000000 in
set_option maxHeartbeats 8000000 in
/-- The law's second half: the sessions in their stretches, the crowded ones. -/
theorem tail5 (b off n cap : Nat) (split : Bool) (z : Nat → Int) (w1 wc : World) (X S sh q T cl cc : Nat) (ca : Option Addr) (sv crv : Value) (hn0 : 0 < n) (h16 : n ≤ 65536)
    (Hc : Hid (∀ i, i < n → w1.cell? ⟨b, off + i, none⟩ = some (.int .i32 (z i)))) (HGd : Hid (Good z n)) (hsh : sh ≤ 30) (hqb : q < 4 * 65536) (hclb : cl ≤ 4 * 65536) (Hcl : Hid (cl = (crowdList z n sh q split).length))
    (hbw : Below w1.heap.size w1 wc) (HBw : Hid (Built wc X S sh q n T split z ca cc sv crv)) (v2 v3 v4 v10 v12 v13 v14 v15 v16 v17 v18 v19 v20 v21 v22 v23 v24 v25 v26 v27 v28 v29 v30 v31 v32 v33 v34 v35 v36 v37 v38 v39 v40 v41 v42 v43 v44 v45 v46 v47 v48 v49 v50 v51 v52 v53 v54 v55 v56 v57 v58 v59 v60 v61 v62 v63 v64 v65 v66 v67 v68 v69 v70 v71 v72 v73 v74 v75 v76 v77 v78 v79 v80 v81 v82 v83 v84 v85 v86 v87 v88 v89 v90 v91 v92 v93 v94 v95 v96 v97 v98 v99 v100 v101 v102 v103 v104 v105 v106 v107 v108 v109 v110 v111 v112 v113 v114 v115 v116 v117 v118 v119 v120 v121 v122 v123 v124 v125 v126 v127 v128 v129 v130 v131 v132 v133 v134 v135 v136 v137 v138 v139 v140 v141 v142 v143 v144 v145 v146 v147 v148 v149 v150 v151 v152 v153 v154 v155 v156 v157 v158 v159 v160 v161 v162 v163 v164 v165 v166 v167 v168 v169 v170 v171 v172 v173 v174 v175 v176 v177 v178 v179 v180 v181 v182 v183 v184 v185 v186 v187 v188 v189 v190 v191 v192 v193 v194 v195 v196 v197 v198 v199 v200 v201 v202 v203 v204 v205 v206 v207 v208 : Value) :
    Code.wp Try.prog ((Try.f5.body.bind (tailFrom 31 60)).getD .skip) (bodyPost Try.prog Try.f5 fun e w' => e = .returned (.bool true) ∧ Below w1.heap.size w1 w') { tmps := #[.slice (some ⟨b, off, none⟩) n cap, .bool split, v2, v3, v4, .pointer (some ⟨X, 0, none⟩), .slice (some ⟨S, 0, none⟩) (q + 2) (q + 2), .int .u64 sh, .slice ca cl cc, .int .i64 n, v10, .int .i64 ((q : Int) + 1), v12, v13, v14, v15, v16, v17, v18, v19, v20, v21, v22, v23, v24, v25, v26, v27, v28, v29, v30, v31, v32, v33, v34, v35, v36, v37, v38, v39, v40, v41, v42, v43, v44, v45, v46, v47, v48, v49, v50, v51, v52, v53, v54, v55, v56, v57, v58, v59, v60, v61, v62, v63, v64, v65, v66, v67, v68, v69, v70, v71, v72, v73, v74, v75, v76, v77, v78, v79, v80, v81, v82, v83, v84, v85, v86, v87, v88, v89, v90, v91, v92, v93, v94, v95, v96, v97, v98, v99, v100, v101, v102, v103, v104, v105, v106, v107, v108, v109, v110, v111, v112, v113, v114, v115, v116, v117, v118, v119, v120, v121, v122, v123, v124, v125, v126, v127, v128, v129, v130, v131, v132, v133, v134, v135, v136, v137, v138, v139, v140, v141, v142, v143, v144, v145, v146, v147, v148, v149, v150, v151, v152, v153, v154, v155, v156, v157, v158, v159, v160, v161, v162, v163, v164, v165, v166, v167, v168, v169, v170, v171, v172, v173, v174, v175, v176, v177, v178, v179, v180, v181, v182, v183, v184, v185, v186, v187, v188, v189, v190, v191, v192, v193, v194, v195, v196, v197, v198, v199, v200, v201, v202, v203, v204, v205, v206, v207, v208], defers := [] } wc := by
  conv => arg 2; whnf
  obtain ⟨y1, y2⟩ := HGd.out.2 0 hn0
  go_wp2
  go_loopw [13] (fun i wr => ∃ k qq : Nat, k ≤ n ∧ i = .int .i64 k ∧ wr = wc.drewN qq) (fun i _ => n - (intOf i).toNat)
  case atStart => exact ⟨0, 0, by omega, rfl, rfl⟩
  case round =>
    obtain ⟨k, q2, hk, rfl, rfl⟩ := hrel
    by_cases hkn : k < n
    · have c0 := Below.some hbw (Hc.out 0 hn0)
      rw [Nat.add_zero] at c0
      have ck := Below.some hbw (Hc.out k hkn)
      obtain ⟨y5, y6⟩ := HGd.out.2 k hkn
      have hat := atOf_cast HGd.out.1 hkn sh
      have hatq : atOf z sh k < q + 1 := by rw [← at_lt_Sc HGd.out.1 hkn, HBw.out.hend]; exact hkn
      have g1 := (at_lt_Sc HGd.out.1 hkn sh (atOf z sh k))
      have g2 := (at_lt_Sc HGd.out.1 hkn sh (atOf z sh k + 1))
      obtain ⟨A, hA⟩ : ∃ A, A = atOf z sh k := ⟨_, rfl⟩
      rw [← hA] at hat hatq g1 g2
      have s1 := HBw.out.row.cell (i := A) (by omega)
      have s2 := HBw.out.row.cell (i := A + 1) (by omega)
      have l1 := Sc_le z n sh A
      have l2 := Sc_le z n sh (A + 1)
      have g1' : Sc z n sh A ≤ k := by omega
      have g2' : k < Sc z n sh (A + 1) := by omega
      obtain ⟨U, hU⟩ : ∃ U, U = Sc z n sh A := ⟨_, rfl⟩
      obtain ⟨V, hV⟩ : ∃ V, V = Sc z n sh (A + 1) := ⟨_, rfl⟩
      rw [← hU] at s1 l1 g1'
      rw [← hV] at s2 l2 g2'
      have hmin : min sh 64 = sh := by omega
      have hAi : (A : Int) < (q : Int) + 1 := by omega
      have hAi1 : (A : Int) < (q : Int) + 2 := by omega
      have hAi2 : (A : Int) + 1 < (q : Int) + 2 := by omega
      have gg1 : (U : Int) ≤ (k : Int) := by omega
      have gg2 : (k : Int) < (V : Int) := by omega
      clear g1 g2 hA hU hV
      go_wp2
      go_quiet (fail)
      go_wp2
      go_roundw
      case rel => exact ⟨k + 1, q2 + nq, by omega, by go_num, by first | rfl | simp only [World.drewN_drewN]⟩
      case measure => simp [intOf]; omega
    · have Hbw := hide hbw
      have HB2 : Hid (Built (wc.drewN q2) X S sh q n T split z ca cc sv crv) := HBw.out.below (below_drewN (Below.refl _ _) _)
      obtain ⟨hit, hhit⟩ : ∃ hit : Bool, hit = decide (split = true ∧ sh ≠ 0) := ⟨_, rfl⟩
      have Hhit := hide hhit
      clear hhit HBw hbw
      go_wp2
      go_loopw [15, 16] (fun j i wr => ∃ k q3 : Nat, k ≤ q + 1 ∧ i = .int .i64 k ∧ j = .int .i64 ((if hit = true then (crowdAt z n sh k).length else 0 : Nat) : Int) ∧ wr = wc.drewN q3) (fun _ i _ => q + 1 - (intOf i).toNat)
      case atStart => exact ⟨0, q2, by omega, rfl, by simp [crowdAt], rfl⟩
      case round =>
        obtain ⟨k3, q3, hk3, rfl, rfl, rfl⟩ := hrel
        obtain ⟨L, hL⟩ : ∃ L, L = if hit = true then (crowdAt z n sh k3).length else 0 := ⟨_, rfl⟩
        have hLb : L ≤ q + 1 := by
          rw [hL]; split
          · have := crowdAt_len z n sh k3; omega
          · omega
        rw [← hL]
        have HL := hide hL
        clear hL
        by_cases hkq3 : k3 < q + 1
        · have sA : wc.cell? ⟨S, k3, none⟩ = some (.int .i32 (Sc z n sh k3)) := HB2.out.row.cell (i := k3) (by omega)
          have sB : wc.cell? ⟨S, k3 + 1, none⟩ = some (.int .i32 (Sc z n sh (k3 + 1))) := HB2.out.row.cell (i := k3 + 1) (by omega)
          have lA := Sc_mono z n sh (i := k3) (j := k3 + 1) (by omega)
          have lB := Sc_le z n sh (k3 + 1)
          obtain ⟨A, hA⟩ : ∃ A, A = Sc z n sh k3 := ⟨_, rfl⟩
          obtain ⟨B, hB⟩ : ∃ B, B = Sc z n sh (k3 + 1) := ⟨_, rfl⟩
          rw [← hA] at sA lA
          rw [← hB] at sB lA lB
          obtain ⟨hb, hhb⟩ : ∃ hb : Bool, hb = (hit && decide (2 < B - A)) := ⟨_, rfl⟩
          have HA := hide hA
          have HBb := hide hB
          have Hhb := hide hhb
          clear hA hB hhb
          have i1 : (k3 : Int) < (q : Int) + 1 := by omega
          have i2 : (k3 : Int) < (q : Int) + 2 := by omega
          have i3 : (k3 : Int) + 1 < (q : Int) + 2 := by omega
          go_upto_region 45 with (fail)
          go_cut [1, 7, 190] from 168 to 204 (fun s1 s7 s190 wr => s1 = .bool split ∧ s7 = .int .u64 sh ∧ s190 = .bool hb ∧ ∃ q4, wr = wc.drewN q4)
          case first =>
            cases split
            · go_quiet (fail)
              go_wp2
              go_meet
              case rel => exact ⟨rfl, rfl, by rw [Hhb.out, Hhit.out]; simp, by first | exact ⟨_, rfl⟩ | (simp only [World.drewN_drewN]; exact ⟨_, rfl⟩)⟩
            · by_cases hs0 : sh = 0
              · subst hs0
                go_quiet (fail)
                go_wp2
                go_meet
                case rel => exact ⟨rfl, rfl, by rw [Hhb.out, Hhit.out]; simp, by first | exact ⟨_, rfl⟩ | (simp only [World.drewN_drewN]; exact ⟨_, rfl⟩)⟩
              · have hs1 : ((sh : Int) != 0) = true := by rw [bne_iff_ne]; omega
                have hAB : (A : Int) ≤ (B : Int) := by omega
                go_quiet (fail)
                go_wp2
                go_meet
                case rel =>
                  refine ⟨rfl, rfl, ?_, by first | exact ⟨_, rfl⟩ | (simp only [World.drewN_drewN]; exact ⟨_, rfl⟩)⟩
                  have e : decide ((2 : Int) < (B : Int) - (A : Int)) = decide (2 < B - A) := by rw [decide_eq_decide]; omega
                  rw [Hhb.out, Hhit.out, e]
                  simp [hs0]
          case rest =>
            obtain ⟨rfl, rfl, rfl, q4, rfl⟩ := hcut
            clear sA sB
            cases hb
            · go_wp2
              go_roundw
              case rel =>
                refine ⟨k3 + 1, q4, by omega, by go_num, ?_, rfl⟩
                rw [HL.out]
                have h1 : ¬ (hit = true ∧ 2 < B - A) := by
                  intro h; have := Hhb.out; rw [h.1, decide_eq_true h.2] at this; cases this
                by_cases hh : hit = true
                · rw [if_pos hh, if_pos hh, crowdAt_miss (by rw [← HA.out, ← HBb.out]; exact fun h => h1 ⟨hh, h⟩)]
                · rw [if_neg hh, if_neg hh]
              case measure => simp [intOf]; omega
            · have hh : hit = true ∧ 2 < B - A := by
                have := Hhb.out
                cases hit
                · cases this
                · refine ⟨rfl, ?_⟩
                  simpa using this.symm
              have hsp : split = true ∧ sh ≠ 0 := by have := Hhit.out; rw [hh.1] at this; simpa using this.symm
              have hlist : crowdList z n sh q split = crowdAt z n sh (q + 1) := by unfold crowdList; rw [if_pos hsp]
              have hget := crowdAt_get (z := z) (n := n) (sh := sh) (k := k3) (K := q + 1) hkq3 (by rw [← HA.out, ← HBb.out]; exact hh.2)
              have hLe : L = (crowdAt z n sh k3).length := by rw [HL.out, if_pos hh.1]
              rw [← hLe] at hget
              have hLcl : L < cl := by
                rw [Hcl.out, hlist]
                rcases Nat.lt_or_ge L (crowdAt z n sh (q + 1)).length with h | h
                · exact h
                · rw [List.getElem?_eq_none h] at hget; cases hget
              rcases HB2.out.crowd with h | ⟨cab, rfl, hcab⟩
              · rw [hlist] at h; rw [h] at hget; simp at hget
              · have cj : wc.cell? ⟨cab, L, none⟩ = some (.int .i64 (k3 : Int)) := hcab L k3 (by rw [hlist]; exact hget)
                have HH := hide (And.intro hh (And.intro hlist (And.intro hget hLe)))
                clear hh hlist hget hLe hcab
                have hLcl' : (L : Int) < (cl : Int) := by omega
                clear hsp
                go_wp2
                go_roundw
                case rel =>
                  refine ⟨k3 + 1, q4, by omega, by go_num, ?_, rfl⟩
                  rw [if_pos HH.out.1.1, crowdAt_hit (by rw [← HA.out, ← HBb.out]; exact HH.out.1.2), List.length_append, HH.out.2.2.2]
                  go_num
                case measure => simp [intOf]; omega
        · obtain rfl : k3 = q + 1 := by omega
          have hLcl : L = cl := by
            rw [HL.out, Hcl.out]
            unfold crowdList
            by_cases hsp : split = true ∧ sh ≠ 0
            · have : hit = true := by rw [Hhit.out]; simp [hsp]
              rw [if_pos this, if_pos hsp]
            · have : ¬ hit = true := by rw [Hhit.out]; simpa using hsp
              rw [if_neg this, if_neg hsp]; rfl
          subst hLcl
          go_wp2
          go_ret
          exact ⟨by simp, below_drewN Hbw.out _⟩
end Go.Proofs.Qxb6001336a
