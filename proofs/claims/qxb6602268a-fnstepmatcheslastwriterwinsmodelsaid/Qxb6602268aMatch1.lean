/- FnStepMatchesLastWriterWinsModel: from the copies on. -/
import Derived.Test.Qxb6602268aMatch2
namespace Go.Proofs.Qxb6602268a.M
open Go.ChangeShapes Go.WideShapes Go.ChangeAt Go.RowKit
set_option linter.unusedVariables false

set_option maxRecDepth 1000000 in
set_option maxHeartbeats 4000000 in
theorem mtail1 (w wD : World) (ps h r1 r2 : Int) (u : Bool) (a a1 a2 a3 a4 : Option Addr) (n c n1 c1 n2 c2 n3 c3 n4 c4 : Nat) (A : Nat → Option Addr) (L C : Nat → Nat) (Z : Nat → Nat → Int) (RK RV WK WV : Nat → Int)
    (G : Hid (Here wD ps a a1 a2 a3 a4 n n1 c1 n2 c2 n3 c3 n4 c4 A L C Z RK RV WK WV)) (hB : Hid (Below w.heap.size w wD)) (hX : Hid ((∀ i, i < n3 → -2147483648 ≤ WK i) ∧ (∀ i, i < n4 → -2147483648 ≤ WV i ∧ WV i ≤ 2147483647) ∧ U h)) (v10 v11 v12 v13 v14 v15 v16 v17 v18 v19 v20 v21 v22 v23 v24 v25 v26 v27 v28 v29 v30 v31 v32 v33 v34 v35 v36 v37 v38 v39 v40 v41 v42 v43 v44 v45 v46 v47 v48 v49 v50 v51 v52 v53 v54 v55 v56 v57 v58 v59 v60 v61 v62 v63 v64 v65 v66 v67 v68 v69 v70 v71 v72 v73 v74 v75 v76 v77 v78 v79 v80 v81 v82 v83 v84 v85 v86 v87 v88 v89 v90 v91 v92 v93 v94 v95 v96 v97 v98 v99 v100 v101 v102 v103 v104 v105 v106 v107 v108 v109 v110 v111 v112 v113 v114 v115 v116 v117 v118 v119 v120 v121 v122 v123 v124 v125 v126 v127 v128 v129 v130 v131 v132 v133 v134 v135 v136 v137 v138 v139 v140 v141 v142 v143 v144 v145 v146 v147 v148 v149 v150 v151 v152 v153 v154 v155 v156 v157 v158 v159 v160 v161 v162 v163 v164 v165 v166 v167 v168 v169 v170 v171 v172 v173 v174 v175 v176 v177 v178 v179 v180 v181 v182 v183 v184 v185 v186 v187 v188 v189 v190 v191 v192 v193 v194 v195 v196 v197 v198 v199 v200 v201 v202 v203 v204 v205 v206 v207 v208 v209 v210 v211 v212 v213 v214 v215 v216 v217 v218 v219 v220 v221 v222 v223 v224 v225 v226 v227 v228 v229 v230 v231 v232 v233 v234 v235 v236 v237 v238 v239 v240 v241 v242 v243 v244 v245 v246 v247 v248 v249 v250 v251 v252 v253 v254 v255 v256 v257 v258 v259 v260 v261 v262 v263 v264 v265 v266 v267 v268 v269 v270 v271 v272 : Value) :
    Code.wp Try.prog ((Try.f3.body.bind (restAt 23)).getD .skip) (bodyPost Try.prog Try.f3 (fun e w' => e = .returned (.bool true) ∧ Below w.heap.size w w')) ⟨#[.int .i32 ps, .slice a n c, .int .u64 h, .slice a1 n1 c1, .slice a2 n2 c2, .slice a3 n3 c3, .slice a4 n4 c4, .int .i64 r1, .int .i64 r2, .bool u, v10, v11, v12, v13, v14, v15, v16, v17, v18, v19, v20, v21, v22, v23, v24, v25, v26, v27, v28, v29, v30, v31, v32, v33, v34, v35, v36, v37, v38, v39, v40, v41, v42, v43, v44, v45, v46, v47, v48, v49, v50, v51, v52, v53, v54, v55, v56, v57, v58, v59, v60, v61, v62, v63, v64, v65, v66, v67, v68, v69, v70, v71, v72, v73, v74, v75, v76, v77, v78, v79, v80, v81, v82, v83, v84, v85, v86, v87, v88, v89, v90, v91, v92, v93, v94, v95, v96, v97, v98, v99, v100, v101, v102, v103, v104, v105, v106, v107, v108, v109, v110, v111, v112, v113, v114, v115, v116, v117, v118, v119, v120, v121, v122, v123, v124, v125, v126, v127, v128, v129, v130, v131, v132, v133, v134, v135, v136, v137, v138, v139, v140, v141, v142, v143, v144, v145, v146, v147, v148, v149, v150, v151, v152, v153, v154, v155, v156, v157, v158, v159, v160, v161, v162, v163, v164, v165, v166, v167, v168, v169, v170, v171, v172, v173, v174, v175, v176, v177, v178, v179, v180, v181, v182, v183, v184, v185, v186, v187, v188, v189, v190, v191, v192, v193, v194, v195, v196, v197, v198, v199, v200, v201, v202, v203, v204, v205, v206, v207, v208, v209, v210, v211, v212, v213, v214, v215, v216, v217, v218, v219, v220, v221, v222, v223, v224, v225, v226, v227, v228, v229, v230, v231, v232, v233, v234, v235, v236, v237, v238, v239, v240, v241, v242, v243, v244, v245, v246, v247, v248, v249, v250, v251, v252, v253, v254, v255, v256, v257, v258, v259, v260, v261, v262, v263, v264, v265, v266, v267, v268, v269, v270, v271, v272], []⟩ wD := by
  have g1 : n1 ≤ 131072 := G.out.dom.h1
  have g2 : n2 ≤ 131072 := G.out.dom.h2
  have g3 : n3 ≤ 131072 := G.out.dom.h3
  have g4 : n4 ≤ 131072 := G.out.dom.h4
  have k1 := G.out.k1
  have k2 := G.out.k2
  have k3 := G.out.k3
  have k4 := G.out.k4
  conv => arg 2; whnf
  go_wp2_with fail
  refine (min_any n1 n2 _ (by unfold maxLen; omega) (by unfold maxLen; omega)).mono ?_
  rintro e w' ⟨rfl, rfl⟩
  go_wp2_with fail
  refine (min_any n3 n4 _ (by unfold maxLen; omega) (by unfold maxLen; omega)).mono ?_
  rintro e w' ⟨rfl, rfl⟩
  go_wp2_with fail
  refine (clone_any a n c A L C Z _ G.out.hp G.out.dom.hn G.out.dom.hL).mono ?_
  rintro e wE ⟨b, bc, A', C', rfl, cp, hBE⟩
  obtain ⟨nr, hnr⟩ : ∃ nr, nr = min n1 n2 := ⟨_, rfl⟩
  obtain ⟨nw, hnw⟩ : ∃ nw, nw = min n3 n4 := ⟨_, rfl⟩
  rw [← hnr, ← hnw]
  have q1 : nr ≤ n1 := by omega
  have q2 : nr ≤ n2 := by omega
  have q3 : nw ≤ n3 := by omega
  have q4 : nw ≤ n4 := by omega
  have HS : Hid (∀ wx, Below wE.heap.size wE wx → Calls Try.prog 11 #[.int .i32 ps, .slice b n bc, .int .u64 h, .slice a1 nr c1, .slice a2 nr c2, .slice a3 nw c3, .slice a4 nw c4, .int .i64 r1, .int .i64 r2, .bool u] wx
      (fun e w' => ∃ (a' : Option Addr) (c' : Nat) (h' : Int), e = .returned (.tuple #[.bool (rh Z ps RK RV nr), .slice a' n c', .int .u64 h']) ∧ Hid (Out wx w' b n bc nr nw A' L C' Z ps h RK RV WK WV a' c' h' ∧ Below wx.heap.size wx w'))) := by
    intro wx hx
    have hx' := (G.out.below hBE).below hx
    refine zzstep_any wx ps h r1 r2 u b a1 a2 a3 a4 n bc nr c1 c2 nw c3 c4 A' L C' Z RK RV WK WV (cp.below hx) (hx'.i1.upto q1) (hx'.i2.upto q2) (hx'.i3.upto q3) (hx'.i4.upto q4) hx'.dom.hn hx'.dom.hL (by omega) (by omega) hx'.dom.hps hx'.ps2
      (fun i hi => hx'.dom.hr i (by omega)) (fun i hi => hx'.hr i (by omega)) (fun i hi => hx'.dom.hw i (by omega)) (fun i hi => hx'.hw i (by omega))
  have HM : Hid (nr = min n1 n2 ∧ nw = min n3 n4) := ⟨hnr, hnw⟩
  clear hnr hnw
  have u1 := run_upto a1 n1 c1 nr (by omega)
  have u2 := run_upto a2 n2 c2 nr (by omega)
  have u3 := run_upto a3 n3 c3 nw (by omega)
  have u4 := run_upto a4 n4 c4 nw (by omega)
  go_wp2_with fail
  rename_i K1 h1
  have HK : Hid (∀ (a : Act) (w : World), _ → K1 a w) := h1
  clear h1
  go_region_held3 (fun _ => True) (trivial) (first | (go_at_call 11; refine (HS.out _ (by exact (Below.refl _ _).drew)).mono ?_; rintro e w1 ⟨a', c', h', rfl, HO⟩))
  have HE : Hid (Below w.heap.size w wE) := hB.out.trans (hBE.mono hB.out.size)
  have HF : Below wE.heap.size wE w1 := ⟨HO.out.2.os, HO.out.2.tape, HO.out.2.output, HO.out.2.size, HO.out.2.block⟩
  have HO' : Hid (Out wE w1 b n bc nr nw A' L C' Z ps h RK RV WK WV a' c' h') := by
    rcases HO.out.1 with H | ⟨e1, e2, e3, N, Gb, Gc, F, e4, hF⟩
    · exact .inl H
    · exact .inr ⟨e1, e2, e3, N, Gb, Gc, F, e4, ⟨hF.bN, hF.le, hF.nn, hF.f, hF.g, ⟨hF.bel.os, hF.bel.tape, hF.bel.output, hF.bel.size, hF.bel.block⟩⟩⟩
  exact HK.out _ _ (mtail2 w wE w1 ps h r1 r2 u a a1 a2 a3 a4 n c n1 c1 n2 c2 n3 c3 n4 c4 A L C Z RK RV WK WV b a' bc c' nr nw h' A' C' ((G.out.below hBE).below HF) (HE.out.trans (HF.mono HE.out.size)) cp HF HO' HM hX _ _ _ _ _ _ _ _ _ _ _ _ _ _ _ _ _ _ _ _ _ _ _ _ _ _ _ _ _ _ _ _ _ _ _ _ _ _ _ _ _ _ _ _ _ _ _ _ _ _ _ _ _ _ _ _ _ _ _ _ _ _ _ _ _ _ _ _ _ _ _ _ _ _ _ _ _ _ _ _ _ _ _ _ _ _ _ _ _ _ _ _ _ _ _ _ _ _ _ _ _ _ _ _ _ _ _ _ _ _ _ _ _ _ _ _ _ _ _ _ _ _ _ _ _ _ _ _ _ _ _ _ _ _ _ _ _ _ _ _ _ _ _ _ _ _ _ _ _ _ _ _ _ _ _ _ _ _ _ _ _ _ _ _ _ _ _ _ _ _ _ _ _ _ _ _ _ _ _ _ _ _ _ _ _ _ _ _ _ _ _ _ _ _ _ _ _ _ _ _ _ _ _ _ _ _ _ _ _ _ _ _ _ _ _ _ _ _ _ _ _ _ _ _ _ _ _ _ _ _ _ _ _ _ _ _ _ _ _ _ _ _ _ _ _ _ _ _ _ _ _ _ _ _ _ _ _)

end Go.Proofs.Qxb6602268a.M
