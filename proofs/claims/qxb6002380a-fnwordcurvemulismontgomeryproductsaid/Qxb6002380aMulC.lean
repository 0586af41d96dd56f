import Derived.Test.Qxb6002380aMulA
import Derived.Laws.CopyRow
import Derived.Laws.CopyOwn
namespace Go.Proofs.Qxb6002380a
open Go.RowKit

theorem wrote_of {w0 wf : World} {zb zo : Nat} {f : Nat → Value} {cz cells : Array Value} {tz : TypeId} (hb : Below w0.heap.size w0 wf) (hz : w0.heap[zb]? = some (.cells cz tz (0, 0)))
    (hs : cells.size = 9) (hf : ∀ k, k < 9 → cells[k]? = Option.some (f k)) (hzo : zo + 9 ≤ cz.size) : Wrote zb zo f w0 (wf.setRow zb (splice cz zo cells.toList)) := by
  have hlt : zb < w0.heap.size := (Array.getElem?_eq_some_iff.1 hz).1
  have hz' : wf.heap[zb]? = some (.cells cz tz (0, 0)) := (hb.block zb hlt).trans hz
  have hl : cells.toList.length = 9 := by simp [hs]
  refine ⟨hb.os, hb.tape, hb.output, by rw [setRow_size]; exact hb.size, fun k hk hne => (setRow_other wf zb k _ hne).trans (hb.block k hk), fun c t hc => ?_⟩
  rw [hz] at hc
  cases hc
  refine ⟨_, setRow_heap wf zb _ _ _ _ hz', splice_size _ _ _ (by rw [hl]; exact hzo), fun j => ?_⟩
  rw [splice_get _ _ _ (by rw [hl]; exact hzo), hl]
  split
  · rw [Array.getElem?_toList]; exact hf _ (by omega)
  · rfl

theorem und70 : Try.prog.underlying 70 = some (.array 9 35) := by kernel_rfl
theorem und34 : Try.prog.underlying 34 = some (.slice 35) := by kernel_rfl
theorem info70 {c : Array Value} (h : c.size = 9) : (Try.prog.info? 70).map (·.size) = some c.size := by rw [h]; kernel_rfl

theorem all_one {c : Array Value} {z : Nat → Nat} (hs : c.size = 9) (hc : ∀ i, i < 9 → c[i]? = Option.some (.int .u64 (z i : Nat))) : c.all (·.oneCell') = true := by
  rw [Array.all_eq_true]
  intro i hi
  have h := hc i (by omega)
  rw [Array.getElem?_eq_getElem hi] at h
  rw [Option.some.inj h]
  rfl

set_option maxRecDepth 1000000 in
set_option maxHeartbeats 8000000 in
/-- The end: p is taken once more where that leaves no borrow, and the result is laid at z. -/
theorem tail33 (wb bt br zb zo n X P : Nat) (q y t : Nat → Nat) (w0 w : World) (cz : Array Value) (tz : TypeId) (hn0 : 1 ≤ n) (hn : n ≤ 9) (hwb : wb < bt) (hzb : zb < bt) (hbr : bt < br) (Hbt : Hid (bt = w0.heap.size))
    (Hq : Hid (∀ k, q k < W)) (HP : Hid (P = val q n)) (Hrow : Hid (w0.rowIs wb 85 29 (wc q n))) (HS : Hid (St w0 w bt t)) (HR : Hid (w.rowIs br 70 9 (fun _ => .int .u64 0)))
    (HO : Hid (LO X y P n (val t (n + 1)))) (Hlt : Hid (X * val y n < P * W ^ n)) (Hz : Hid (w0.heap[zb]? = some (.cells cz tz (0, 0)))) (hzo : zo + 9 ≤ cz.size)
    (v0 v2 v3 v4 v5 v6 v7 v8 v9 v11 v13 v14 v15 v16 v17 v18 v19 v20 v21 v22 v23 v24 v25 v26 v27 v28 v30 v31 v32 v33 v34 v35 v36 v37 v38 v39 v40 v41 v42 v43 v44 v45 v46 v47 v48 v49 v50 v51 v52 v53 v54 v55 v56 v57 v58 v59 v60 v61 v62 v63 v64 v65 v66 v67 v68 v69 v70 v71 v72 v73 v74 v75 v76 v77 v78 v79 v80 v81 v82 v83 v84 v85 v86 v87 v88 v89 v90 v91 v92 v93 v94 v95 v96 v97 v98 v99 v100 v101 v102 v103 v104 v105 v106 v107 v108 v109 v110 v111 v112 v113 v114 v115 v116 v117 v118 v119 v120 v121 v122 v123 v124 v125 v126 v127 v128 v129 v130 v131 v132 v133 v134 v135 v136 v137 v138 v139 v140 v141 v142 v143 v144 v145 v146 v147 v148 v149 v150 v151 v152 v153 v154 v155 v156 v157 v158 v159 v160 v161 v162 v163 v164 v165 v166 v167 v168 v169 v170 v171 v172 v173 v174 v175 v176 v177 v178 v179 v180 v181 v182 v183 v184 v185 v186 v187 v188 v189 v190 v191 v192 v193 v194 v195 v196 v197 v198 v199 v200 v201 v202 v203 v204 v205 v206 v207 v208 v209 v210 v211 v212 v213 v214 v215 v216 v217 v218 v219 v220 v221 v222 v223 v224 v225 v226 v227 v228 v229 v230 v231 v232 v233 v234 v235 v236 v237 v238 v239 v240 v241 : Value) :
    Code.wp Try.prog ((Try.f39.body.bind (tailFrom 33 60)).getD .skip) (bodyPost Try.prog Try.f39 fun e w' => e = .returned (.tuple #[]) ∧ ∃ r, MulOK n X (val y n) P r ∧ Wrote zb zo (fun k => .int .u64 (r k : Nat)) w0 w') { tmps := #[v0, .pointer (some ⟨zb, zo, none⟩), v2, v3, v4, v5, v6, v7, v8, v9, .slice (some ⟨wb, 0, none⟩) n 9, v11, .slice (some ⟨bt, 0, none⟩) (n + 1) 10, v13, v14, v15, v16, v17, v18, v19, v20, v21, v22, v23, v24, v25, v26, v27, v28, .pointer (some ⟨br, 0, none⟩), v30, v31, v32, v33, v34, v35, v36, v37, v38, v39, v40, v41, v42, v43, v44, v45, v46, v47, v48, v49, v50, v51, v52, v53, v54, v55, v56, v57, v58, v59, v60, v61, v62, v63, v64, v65, v66, v67, v68, v69, v70, v71, v72, v73, v74, v75, v76, v77, v78, v79, v80, v81, v82, v83, v84, v85, v86, v87, v88, v89, v90, v91, v92, v93, v94, v95, v96, v97, v98, v99, v100, v101, v102, v103, v104, v105, v106, v107, v108, v109, v110, v111, v112, v113, v114, v115, v116, v117, v118, v119, v120, v121, v122, v123, v124, v125, v126, v127, v128, v129, v130, v131, v132, v133, v134, v135, v136, v137, v138, v139, v140, v141, v142, v143, v144, v145, v146, v147, v148, v149, v150, v151, v152, v153, v154, v155, v156, v157, v158, v159, v160, v161, v162, v163, v164, v165, v166, v167, v168, v169, v170, v171, v172, v173, v174, v175, v176, v177, v178, v179, v180, v181, v182, v183, v184, v185, v186, v187, v188, v189, v190, v191, v192, v193, v194, v195, v196, v197, v198, v199, v200, v201, v202, v203, v204, v205, v206, v207, v208, v209, v210, v211, v212, v213, v214, v215, v216, v217, v218, v219, v220, v221, v222, v223, v224, v225, v226, v227, v228, v229, v230, v231, v232, v233, v234, v235, v236, v237, v238, v239, v240, v241], defers := [] } w := by
  conv => arg 2; whnf
  have hn9 : (n : Int) ≤ 9 := by omega
  have hn0' : (0 : Int) ≤ (n : Int) := by omega
  go_wp2
  go_loopw [31, 205] (fun s31 s205 wr => ∃ (j b : Nat) (r : Nat → Nat), j ≤ n ∧ s31 = .int .u64 (b : Nat) ∧ s205 = .int .i64 (j : Int) ∧ L4 t q j r b ∧ wr.rowIs br 70 9 (fun i => .int .u64 (r i : Nat)) ∧ Below br w wr) (fun _ s205 _ => n - (intOf s205).toNat)
  case atStart => exact ⟨0, 0, fun _ => 0, by omega, by go_num, by go_num, L4.start, HR.out, Below.refl _ _⟩
  case round =>
    obtain ⟨j, b, r, hj, rfl, rfl, h4, hr, hb⟩ := hrel
    have H4 := hide h4
    have HRr := hide hr
    have Hb := hide hb
    clear h4 hr hb
    by_cases hlt : j < n
    · have i1 : (j : Int) < (n : Int) := by omega
      have i2 : (j : Int) < (n : Int) + 1 := by omega
      have cq : wr.cell? ⟨wb, j, none⟩ = some (.int .u64 (q j)) := cell_below Hb.out (show wb < br by omega) (HS.out.word Hrow.out hwb j (by omega) (by omega))
      have ct : wr.cell? ⟨bt, j, none⟩ = some (.int .u64 (t j)) := cell_below Hb.out (show bt < br by omega) (HS.out.1.cell (i := j) (by omega))
      have cs : wr.cell? ⟨br, j, none⟩ = some (.int .u64 (r j)) := HRr.out.cell (i := j) (by omega)
      have cf := HRr.out.frozen j
      go_wp2_with fail
      refine (subW (t j) (q j) b (HS.out.2.2 _) (Hq.out _) H4.out.2.2.2 _).mono ?_
      rintro e w1 ⟨d, o, rfl, rfl, h1, hd, ho⟩
      have Hh1 := hide h1
      clear h1
      go_wp2
      go_roundw
      case rel =>
        refine ⟨j + 1, o, up r j d, by omega, by go_num, by go_num, H4.out.step hd ho Hh1.out, (HRr.out.set j _).congr fun k _ => ?_, Hb.out.setCell (p := ⟨br, j, none⟩) (Nat.le_refl br) _⟩
        unfold up
        by_cases e : k = j <;> simp [e]
      case measure => simp [intOf]; omega
    · have Hjn : Hid (j = n) := hide (by omega)
      have i1 : ¬ ((j : Int) < (n : Int)) := by omega
      have i2 : (n : Int) < (n : Int) + 1 := by omega
      have ct : wr.cell? ⟨bt, n, none⟩ = some (.int .u64 (t n)) := cell_below Hb.out (show bt < br by omega) (HS.out.1.cell (i := n) (by omega))
      have HL4 : Hid (L4 t q n r b) := hide (by have h := H4.out; rw [Hjn.out] at h; exact h)
      have Hw : Hid (Below w0.heap.size w0 wr) := hide ((Hbt.out ▸ HS.out.2.1).trans (Hb.out.mono (by have := Hbt.out; omega)))
      go_wp2_with fail
      refine (subW0 (t n) b (HS.out.2.2 _) H4.out.2.2.2 _).mono ?_
      rintro e w1 ⟨d, o, rfl, rfl, h1⟩
      rcases h1 with ⟨rfl, h1⟩ | ⟨rfl, h1⟩
      · have Hh1 := hide h1
        clear h1
        obtain ⟨cr, hcr, hcs, hcc⟩ := HRr.out
        have Hcr := hide hcr
        have Hcc := hide hcc
        have Hone := hide (all_one hcs hcc)
        have Hi := hide (info70 hcs)
        have hfit : zo + cr.size ≤ cz.size := by omega
        have Hz1 : Hid (w1.heap[zb]? = some (.cells cz tz (0, 0))) := hide ((Hw.out.block zb (by have := Hbt.out; omega)).trans Hz.out)
        clear hcr hcc
        go_upto_region 43 with (fail)
        go_step
        go_wp2_with (first | refine wpList_load_row rfl 70 (.tmp 29) rfl br rfl 70 cr (0, 0) (.array 9 35) Hcr.out und70 rfl Hi.out ?_ | refine wpList_store_at rfl 70 (.tmp 241) (.tmp 240) rfl zb zo cr rfl rfl tz cz Hz1.out Hi.out hfit Hone.out ?_)
        go_end0
        exact ⟨rfl, r, HL4.out.keep HO.out HP.out Hq.out Hlt.out Hh1.out, wrote_of Hw.out Hz.out hcs Hcc.out hzo⟩
      · have Hh1 := hide h1
        clear h1
        obtain ⟨cr, hcr, hcs, hcc⟩ := HRr.out
        obtain ⟨ct0, hct, hcts, hctc⟩ := HS.out.1
        have Hcr := hide hcr
        have Hcc := hide hcc
        clear hcr hcc
        obtain ⟨cs, hcsl, hcsg⟩ : ∃ cs : List Value, cs.length = n ∧ ∀ j, j < n → cs[j]? = some (.int .u64 (t j : Nat)) := ⟨(List.range n).map fun j => .int .u64 (t j : Nat), by simp, fun j hj => by simp [hj]⟩
        have Hcsg := hide hcsg
        have Hsrc : Hid (∀ j v, cs[j]? = some v → w1.cell? ((⟨bt, 0, none⟩ : Addr).add j) = some v) := hide (by
          intro j v hv
          have hjn : j < n := by
            rcases Nat.lt_or_ge j n with h | h
            · exact h
            · rw [List.getElem?_eq_none (by omega)] at hv; cases hv
          rw [Hcsg.out j hjn] at hv
          cases hv
          have e : (⟨bt, 0, none⟩ : Addr).add j = ⟨bt, j, none⟩ := by unfold Addr.add; split <;> simp_all
          rw [e]
          exact cell_below Hb.out (show bt < br by omega) (HS.out.1.cell (i := j) (by omega)))
        have Hone1 : Hid (∀ v ∈ cs, v.oneCell' = true) := hide (by
          intro v hv
          obtain ⟨j, hj⟩ := List.getElem?_of_mem hv
          have hjn : j < n := by
            rcases Nat.lt_or_ge j n with h | h
            · exact h
            · rw [List.getElem?_eq_none (by omega)] at hj; cases hj
          rw [Hcsg.out j hjn] at hj
          cases hj
          rfl)
        obtain ⟨cr2, hcr2⟩ : ∃ cr2, cr2 = (cr.toList.take 0 ++ (cs ++ cr.toList.drop (0 + cs.length))).toArray := ⟨_, rfl⟩
        have hcs2 : cr2.size = 9 := by rw [hcr2]; simp; omega
        have hcc2 : ∀ k, k < 9 → cr2[k]? = some (.int .u64 ((if k < n then t k else 0 : Nat) : Int)) := by
          intro k hk
          rw [hcr2, List.getElem?_toArray]
          simp only [List.take_zero, List.nil_append, List.getElem?_append, hcsl, Nat.zero_add]
          by_cases hkn : k < n
          · simp only [hkn, if_true]; exact Hcsg.out k hkn
          · simp only [hkn, if_false, List.getElem?_drop, Array.getElem?_toList]
            have e : n + (k - n) = k := by omega
            rw [e, Hcc.out k hk]
            show some (Value.int .u64 ((r k : Nat) : Int)) = _
            rw [HL4.out.2.1 k (by omega)]
        have Hcc2 := hide hcc2
        have Hone := hide (all_one (z := fun k => if k < n then t k else 0) hcs2 hcc2)
        have Hi := hide (info70 hcs2)
        have hfit : zo + cr2.size ≤ cz.size := by omega
        have Hmin : Hid (cs.length = Nat.min (n + 1) n) := hide (by rw [hcsl]; exact (Nat.min_eq_right (by omega)).symm)
        have hfc : 0 + cs.length ≤ cr.size := by omega
        have Hz1 : Hid (w1.heap[zb]? = some (.cells cz tz (0, 0))) := hide ((Hw.out.block zb (by have := Hbt.out; omega)).trans Hz.out)
        have Hz2 : Hid ((w1.setRow br cr2).heap[zb]? = some (.cells cz tz (0, 0))) := hide ((setRow_other w1 br zb cr2 (by omega)).trans Hz1.out)
        have Hcr2 : Hid ((w1.setRow br cr2).heap[br]? = some (.cells cr2 70 (0, 0))) := hide (setRow_heap w1 br cr cr2 70 _ Hcr.out)
        have Hw2 : Hid (Below w0.heap.size w0 (w1.setRow br cr2)) := hide (below_setRow Hw.out (by have := Hbt.out; omega) cr2)
        have Hcr2e := hide hcr2
        clear hcc2 hcr2 hcsg hct hctc
        go_upto_region 42 with (fail)
        go_step
        go_wp2_with (first | (refine wpList_copy_own rfl (.tmp 236) (.tmp 237) 34 34 rfl 35 und34 (by kernel_rfl) br 0 n 9 ⟨bt, 0, none⟩ (n + 1) 10 rfl rfl cr 70 Hcr.out cs Hmin.out Hsrc.out hfc Hone1.out ?_; rw [← Hcr2e.out]) | refine wpList_load_row rfl 70 (.tmp 29) rfl br rfl 70 cr2 (0, 0) (.array 9 35) Hcr2.out und70 rfl Hi.out ?_ | refine wpList_store_at rfl 70 (.tmp 241) (.tmp 240) rfl zb zo cr2 rfl rfl tz cz Hz2.out Hi.out hfit Hone.out ?_)
        go_end0
        exact ⟨rfl, _, HL4.out.copy HO.out HP.out Hlt.out HS.out.2.2 Hh1.out, wrote_of Hw2.out Hz.out hcs2 Hcc2.out hzo⟩

end Go.Proofs.Qxb6002380a
